import JvmDerived
import JvmDerived.Pilot.@@N@@Statement
import JvmDerived.Pilot.@@N@@Code
set_option linter.unusedVariables false
set_option linter.unusedSimpArgs false
namespace Jvm.Pilot.@@N@@
open Jvm Jvm.ClassFile Sem Op Lib Jvm.Free Jvm.Stand Jvm.LawKit Jvm.RoadKit Bundle Jvm.Pilot.@@N@@.Jvm.D
/-- a predicate that goes backwards over the machine's steps -/
def OwnAdv (p : Program) (e : Env) (below : List Frame) (G : State → Prop) : Prop := ∀ A B : State, (∀ t, Steps p.tables e below B t → Steps p.tables e below A t) → G B → G A
/-- what a return must show -/
def OwnFin (p : Program) (l : Launch) (e : Env) (R : Room) (s : State) (m : MethodId) (args : Array Value) (below : List Frame) (meth : Method) (c : Code) (G : State → Prop) (Q : Option Value → Heap → List Loc → Prop) (kc ks : Nat) : Prop :=
  ∀ (A T : State) (locs : List Loc) (cells slots : Nat) (v : Option Value) (h : Heap), Stand p l e R s m args below meth c T locs cells slots → T.heap = h → (meth.sig.returnType = none → v = none) → cells ≤ kc → slots ≤ ks → Q v h locs →
    (∀ fs : List Frame, (∀ (f : JFrame) (acts : List Action), f.method = m → f.locked = none → f.entered = [] → (doReturn e (T.setTop f) acts v).1 = T.setFrames fs) → Steps p.tables e below A (T.setFrames fs)) → G A
theorem own_body {l : Launch} {y : MethodName} {bytes : ByteArray} {maxL : Nat} {rt : Option FieldType} {ws : List Jvm.Cond} {rm : Room} {as' : Array Value} {Z : State} {h0 : Heap} {Q : Option Value → Heap → List Loc → Prop} (hpl : plainFor y = true)
    (body : ∀ (p : Program) (e : Env) (s : State) (m : MethodId) (below : List Frame) (meth : Method) (c : Code) (s₁ : State) (G : State → Prop), Stand p l e rm s m as' below meth c s₁ [] 0 0 → p.tables.exec = Jvm.exec → Z.Warmed39 s.vm → c.code = bytes → c.maxLocals = maxL → s.vm.findClass y.cls = some m.cls → meth.name = y.name → meth.sig.returnType = rt → s₁.heap = h0 →
      OwnAdv p e below G → OwnFin p l e rm s m as' below meth c G Q rm.cells rm.slots → G (s₁.setTop (entryFrame m as' maxL))) :
    MetFree l y (head1 (Jvm.Cond.code y bytes maxL rt :: ws) rm) (fun a U => a = as' ∧ Z.Warmed39 U.vm ∧ U.heap = h0) (fun _ _ _ _ _ => True) (fun _ U o U' => ∃ v L, o = .returned v ∧ Q v U'.heap L ∧ FrameEnd U o U' L rm.cells rm.slots) := by
  refine MetFree.of_bodySF hpl hisR ?_
  intro p e s m args below meth c s₁ Bd hml0 hP hK
  obtain ⟨rfl, hZ, hh⟩ := hP
  have e0 : s₁.heap = h0 := by rw [← hh, Bd.state]; rfl
  refine body p e s m below meth c s₁ (fun A => ∃ s₂ o, Steps p.tables e below A s₂ ∧ s₂.status = .running ∧ Ended s₂ below o ∧ ∃ v L, o = .returned v ∧ Q v s₂.heap L ∧ FrameEnd s o s₂ L rm.cells rm.slots) (Stand.of_body Bd) Bd.exec hZ Bd.bytes hml0 (findClass_of_methodNamed Bd.named) (name_of_methodNamed Bd.named Bd.method).1 Bd.returns e0 ?_ ?_
  · intro A B h g
    obtain ⟨t, o, st, r⟩ := g
    exact ⟨t, o, h t st, r⟩
  · intro A T locs cells slots v h X eT hv hc hl hQ hs
    obtain ⟨fs, hr, hrun, hended, hW, hsame⟩ := X.leave (v := v) hv Bd.notSynchronized
    exact ⟨_, _, hs fs hr, hrun, hended, v, locs, rfl, (show Q v T.heap locs by rw [eT]; exact hQ), ⟨_, rfl⟩, hW, hsame.mono hc hl⟩
section OwnRet
variable {p : Program} {l : Launch} {e : Env} {R : Room} {s : State} {m : MethodId} {args : Array Value} {below : List Frame} {meth : Method} {c : Code} {T : State} {locs : List Loc} {cells slots : Nat}
theorem own_retI (X : Stand p l e R s m args below meth c T locs cells slots) (hx : p.tables.exec = Jvm.exec) {pc : Nat} {Ls : Array Slot} {z : Int32} {rest : List Value} (hret : meth.sig.returnType = some .int) (hd : decode c.code pc = .ok (.ireturn, 1)) {fs : List Frame}
    (hl : ∀ (f : JFrame) (acts : List Action), f.method = m → f.locked = none → f.entered = [] → (doReturn e (T.setTop f) acts (some (.int z))).1 = T.setFrames fs) : Steps p.tables e below (T.setTop (mkF m pc Ls (.int z :: rest))) (T.setFrames fs) :=
  retOut X hx hret rfl (Or.inl ⟨rfl, Or.inl rfl, z, rfl⟩) hd hl
theorem own_retJ (X : Stand p l e R s m args below meth c T locs cells slots) (hx : p.tables.exec = Jvm.exec) {pc : Nat} {Ls : Array Slot} {z : Int64} {rest : List Value} (hret : meth.sig.returnType = some .long) (hd : decode c.code pc = .ok (.lreturn, 1)) {fs : List Frame}
    (hl : ∀ (f : JFrame) (acts : List Action), f.method = m → f.locked = none → f.entered = [] → (doReturn e (T.setTop f) acts (some (.long z))).1 = T.setFrames fs) : Steps p.tables e below (T.setTop (mkF m pc Ls (.long z :: rest))) (T.setFrames fs) :=
  retOut X hx hret rfl (Or.inr (Or.inl ⟨rfl, rfl, z, rfl⟩)) hd hl
theorem own_retA (X : Stand p l e R s m args below meth c T locs cells slots) (hx : p.tables.exec = Jvm.exec) {pc : Nat} {Ls : Array Slot} {w : Value} {t : FieldType} {rest : List Value} (hret : meth.sig.returnType = some t) (ht : t.isReference = true) (hn : narrow t w = w) (hw : w.isRef = true) (hd : decode c.code pc = .ok (.areturn, 1)) {fs : List Frame}
    (hl : ∀ (f : JFrame) (acts : List Action), f.method = m → f.locked = none → f.entered = [] → (doReturn e (T.setTop f) acts (some w)).1 = T.setFrames fs) : Steps p.tables e below (T.setTop (mkF m pc Ls (w :: rest))) (T.setFrames fs) :=
  retOut X hx hret hn (Or.inr (Or.inr (Or.inr (Or.inr ⟨rfl, ht, hw⟩)))) hd hl
end OwnRet

theorem pd_0 : parseMethodDescriptor "(I[BI)I" = some ⟨[.int, (.array .byte), .int], some .int⟩ := by decide +kernel
theorem pd_1 : parseMethodDescriptor "([BIIIB)Z" = some ⟨[(.array .byte), .int, .int, .int, .byte], some .boolean⟩ := by decide +kernel
theorem own_iincW {tb : Tables} [Ours tb] {e : Env} {below : List Frame} {T target : State} {m : MethodId} {c : Code} {g : JFrame} (h : At T m c below) (hx : tb.exec = Jvm.exec) (hg : g.method = m) {k : Nat} {cst : Int} {x : Int32} {l' : Array Slot} (hd : decode c.code g.pc = .ok (.iinc k cst, 6)) (hl : g.locals[k]? = some (.val (.int x))) (hl' : storeLocals g.locals k (.int (x + Int32.ofInt cst)) = some l')
    (hr : Steps tb e below (T.setTop { g with pc := g.pc + 6, locals := l' }) target) : Steps tb e below (T.setTop g) target := by
  subst hg
  jvm_step h [h.top, hx, hd, hl, hl']
  exact hr
theorem own_i2b (x : Int32) : x.toInt8.toInt32.toInt8.toInt32 = x.toInt8.toInt32 := by simp
def OwnB (Z : State) (h : Heap) (a : Addr) (f : Nat → Int32) : Prop := ∃ c : Cell, Arr Z h a c .byte ∧ c.slots.size = 8 ∧ ∀ i, i < 8 → c.slots[i]? = some (.int (f i))
theorem own_set {Z : State} {h h' : Heap} {a : Addr} {c : Cell} {f : Nat → Int32} {n : Nat} {y : Int32} (A : Arr Z h a c .byte) (sz : c.slots.size = 8) (H : ∀ i, i < 8 → c.slots[i]? = some (.int (f i))) (W : Wr h h' a n (.int y)) : ∃ f', OwnB Z h' a f' ∧ f' n = y ∧ ∀ i, i ≠ n → f' i = f i := by
  obtain ⟨c', q1, q2, q3, q4, -, q6, q7⟩ := wr_at W A.1
  obtain ⟨q8, q9, -⟩ := q7 rfl
  refine ⟨fun i => if i = n then y else f i, ⟨c.setSlot n (.int y), A.same W, by rw [← q8, q4, sz], fun i hi => ?_⟩, if_pos rfl, fun i hi => if_neg hi⟩
  rw [← q8]
  by_cases e : i = n
  · subst e; rw [q9]; simp
  · rw [q6 i e, H i hi]; simp [e]
theorem own_ofArv {Z : State} {h : Heap} {a : Addr} {k : ClassId} {fb : Int32} {d : Value} (F : Arv Z h a k .byte (8 : Int32) [.int fb, .int fb, .int fb, .int fb, .int fb, .int fb, .int fb, .int fb] d) : OwnB Z h a (fun _ => fb) := by
  obtain ⟨c, A, -, S, -, H, -⟩ := F
  have e8 : (8 : Int32).toNatClampNeg = 8 := rfl
  rw [e8] at S
  refine ⟨c, A, S, fun i hi => ?_⟩
  rw [H i (by omega)]
  match i, hi with
  | 0, _ => rfl
  | 1, _ => rfl
  | 2, _ => rfl
  | 3, _ => rfl
  | 4, _ => rfl
  | 5, _ => rfl
  | 6, _ => rfl
  | 7, _ => rfl
theorem own_nat {j : Int32} (h : 0 ≤ j.toInt) : (j.toNatClampNeg : Int) = j.toInt := (nat_of (by have e0 : (0 : Int32).toInt = 0 := rfl; rw [Int32.lt_iff_toInt_lt]; omega)).symm
theorem own_inb {c : Cell} {j : Int32} (sz : c.slots.size = 8) (h0 : 0 ≤ j.toInt) (h1 : j.toInt < 8) : ¬ (j < 0 ∨ c.slots.size ≤ j.toNatClampNeg) := by
  have q := own_nat h0
  have e0 : (0 : Int32).toInt = 0 := rfl
  rw [Int32.lt_iff_toInt_lt, sz]
  omega
theorem own_ix {ov : Int32} (k : Int32) (n : Nat) (hk : k.toInt = n) (hn : n ≤ 4) (h0 : 0 ≤ ov.toInt) (h1 : ov.toInt ≤ 3) : (ov + k).toNatClampNeg = ov.toNatClampNeg + n ∧ (ov + k).toInt = ov.toInt + n := by
  have q := own_nat h0
  have r := c_iadd ov k
  have r2 := rng32 (ov + k)
  have e : (ov + k).toInt = ov.toInt + n := by omega
  have q2 := own_nat (j := ov + k) (by omega)
  exact ⟨by omega, e⟩
theorem own_byte {y b : Int32} {v : Int} (hy : y.toInt = v) (h0 : 0 ≤ v) (h1 : v < 256) (hb : b = (y.toInt8.toInt32 &&& (255 : Int32))) : b.toInt = v := by
  rw [hb, c_mask _ (255 : Int32) 8 (by decide) (by decide)]
  have q := c_i2b y
  omega
theorem own_shr (x : Int32) (q : Int32) (k : Nat) (hk : q.toBitVec.toNat % 32 = k) : (x >>> (q &&& 31)).toInt = x.toInt / (2 ^ k : Nat) := c_ishr x q k hk
theorem own_lead (A : Int32) (cp q : Int32) (s : Nat) (hs : q.toBitVec.toNat % 32 = s) (k : Nat) (hk : k ≤ 31) (Av : Int) (hA : A.toInt = Av) (hAk : Av % (2 ^ k : Nat) = 0) (h0 : 0 ≤ Av) (h00 : 0 ≤ cp.toInt) (hv : cp.toInt / (2 ^ s : Nat) < (2 ^ k : Nat)) (hm : Av + (2 ^ k : Nat) < 2147483648) : (A ||| (cp >>> (q &&& 31))).toInt = Av + cp.toInt / (2 ^ s : Nat) := by
  have e := c_ishr cp q s hs
  have hp : (0 : Int) ≤ cp.toInt / (2 ^ s : Nat) := Int.ediv_nonneg h00 (Int.natCast_nonneg _)
  have o := c_or A (cp >>> (q &&& 31)) k hk _ rfl (by rw [hA]; exact hAk) (by rw [e]; exact hp) (by rw [e]; exact hv)
  have r := rng32 (A ||| (cp >>> (q &&& 31)))
  rw [e, hA] at o
  omega
theorem own_cont (cp q : Int32) (s : Nat) (hs : q.toBitVec.toNat % 32 = s) : ((128 : Int32) ||| ((cp >>> (q &&& 31)) &&& (63 : Int32))).toInt = 128 + cp.toInt / (2 ^ s : Nat) % 64 := by
  have e := c_ishr cp q s hs
  have m := c_mask (cp >>> (q &&& 31)) (63 : Int32) 6 (by decide) (by decide)
  rw [e] at m
  have e128 : (128 : Int32).toInt = 128 := rfl
  have o := c_or (128 : Int32) ((cp >>> (q &&& 31)) &&& (63 : Int32)) 6 (by decide) 64 rfl (by decide) (by omega) (by omega)
  have r := rng32 ((128 : Int32) ||| ((cp >>> (q &&& 31)) &&& (63 : Int32)))
  omega
theorem own_small {Pp : Int32 → Prop} (h : ∀ k : Fin 256, Pp (Int32.ofInt (k.1 : Int))) {b : Int32} (h0 : 0 ≤ b.toInt) (h1 : b.toInt < 256) : Pp b := by
  have q : Pp (Int32.ofInt ((b.toInt.toNat : Nat) : Int)) := h ⟨b.toInt.toNat, by omega⟩
  have e : (Int32.ofInt ((b.toInt.toNat : Nat) : Int)) = b := by rw [Int.toNat_of_nonneg h0]; exact Int32.ofInt_toInt b
  rwa [e] at q
theorem own_224 {b : Int32} (h0 : 192 ≤ b.toInt) (h1 : b.toInt < 224) : (b &&& (224 : Int32)) = (192 : Int32) :=
  own_small (Pp := fun b => 192 ≤ b.toInt → b.toInt < 224 → (b &&& (224 : Int32)) = (192 : Int32)) (by decide +kernel) (by omega) (by omega) h0 h1
theorem own_240 {b : Int32} (h0 : 224 ≤ b.toInt) (h1 : b.toInt < 240) : (b &&& (240 : Int32)) = (224 : Int32) :=
  own_small (Pp := fun b => 224 ≤ b.toInt → b.toInt < 240 → (b &&& (240 : Int32)) = (224 : Int32)) (by decide +kernel) (by omega) (by omega) h0 h1
theorem own_248 {b : Int32} (h0 : 240 ≤ b.toInt) (h1 : b.toInt < 248) : (b &&& (248 : Int32)) = (240 : Int32) :=
  own_small (Pp := fun b => 240 ≤ b.toInt → b.toInt < 248 → (b &&& (248 : Int32)) = (240 : Int32)) (by decide +kernel) (by omega) (by omega) h0 h1
theorem own_192 {b : Int32} (h0 : 128 ≤ b.toInt) (h1 : b.toInt < 192) : (b &&& (192 : Int32)) = (128 : Int32) :=
  own_small (Pp := fun b => 128 ≤ b.toInt → b.toInt < 192 → (b &&& (192 : Int32)) = (128 : Int32)) (by decide +kernel) (by omega) (by omega) h0 h1
theorem own_shl (x q : Int32) (k : Nat) (hk : q.toBitVec.toNat % 32 = k) (h0 : 0 ≤ x.toInt) (h1 : x.toInt * (2 ^ k : Nat) < 2147483648) : (x <<< (q &&& 31)).toInt = x.toInt * (2 ^ k : Nat) := by
  have e := c_ishl x q k hk
  have r := rng32 (x <<< (q &&& 31))
  have hp : 0 ≤ x.toInt * (2 ^ k : Nat) := Int.mul_nonneg h0 (Int.natCast_nonneg _)
  omega
theorem own_or (a b : Int32) (k : Nat) (hk : k ≤ 31) (Pv : Int) (hP : Pv = (2 ^ k : Nat)) (h1 : a.toInt % Pv = 0) (h2 : 0 ≤ b.toInt) (h3 : b.toInt < Pv) (h4 : 0 ≤ a.toInt) (h5 : a.toInt + Pv < 2147483648) : (a ||| b).toInt = a.toInt + b.toInt := by
  have o := c_or a b k hk Pv hP h1 h2 h3
  have r := rng32 (a ||| b)
  omega
theorem own_dec2 {b0 c1 cp : Int32} (h0 : b0.toInt = 192 + cp.toInt / 64) (h1 : c1.toInt = 128 + cp.toInt % 64) (hl : 0 ≤ cp.toInt) (hu : cp.toInt < 2048) : (((b0 &&& (31 : Int32)) <<< ((6 : Int32) &&& 31)) ||| (c1 &&& (63 : Int32))) = cp := by
  have m0 := c_mask b0 (31 : Int32) 5 (by decide) (by decide)
  have m1 := c_mask c1 (63 : Int32) 6 (by decide) (by decide)
  have s0 := own_shl (b0 &&& (31 : Int32)) (6 : Int32) 6 rfl (by omega) (by omega)
  have o := own_or ((b0 &&& (31 : Int32)) <<< ((6 : Int32) &&& 31)) (c1 &&& (63 : Int32)) 6 (by decide) 64 rfl (by omega) (by omega) (by omega) (by omega) (by omega)
  rw [← Int32.toInt_inj]
  omega
theorem own_dec3 {b0 c1 c2 cp : Int32} (h0 : b0.toInt = 224 + cp.toInt / 4096) (h1 : c1.toInt = 128 + cp.toInt / 64 % 64) (h2 : c2.toInt = 128 + cp.toInt % 64) (hl : 0 ≤ cp.toInt) (hu : cp.toInt < 65536) : ((((b0 &&& (15 : Int32)) <<< ((12 : Int32) &&& 31)) ||| ((c1 &&& (63 : Int32)) <<< ((6 : Int32) &&& 31))) ||| (c2 &&& (63 : Int32))) = cp := by
  have m0 := c_mask b0 (15 : Int32) 4 (by decide) (by decide)
  have m1 := c_mask c1 (63 : Int32) 6 (by decide) (by decide)
  have m2 := c_mask c2 (63 : Int32) 6 (by decide) (by decide)
  have s0 := own_shl (b0 &&& (15 : Int32)) (12 : Int32) 12 rfl (by omega) (by omega)
  have s1 := own_shl (c1 &&& (63 : Int32)) (6 : Int32) 6 rfl (by omega) (by omega)
  have o1 := own_or ((b0 &&& (15 : Int32)) <<< ((12 : Int32) &&& 31)) ((c1 &&& (63 : Int32)) <<< ((6 : Int32) &&& 31)) 12 (by decide) 4096 rfl (by omega) (by omega) (by omega) (by omega) (by omega)
  have o := own_or (((b0 &&& (15 : Int32)) <<< ((12 : Int32) &&& 31)) ||| ((c1 &&& (63 : Int32)) <<< ((6 : Int32) &&& 31))) (c2 &&& (63 : Int32)) 6 (by decide) 64 rfl (by omega) (by omega) (by omega) (by omega) (by omega)
  rw [← Int32.toInt_inj]
  omega
theorem own_dec4 {b0 c1 c2 c3 cp : Int32} (h0 : b0.toInt = 240 + cp.toInt / 262144) (h1 : c1.toInt = 128 + cp.toInt / 4096 % 64) (h2 : c2.toInt = 128 + cp.toInt / 64 % 64) (h3 : c3.toInt = 128 + cp.toInt % 64) (hl : 0 ≤ cp.toInt) (hu : cp.toInt < 1114112) : (((((b0 &&& (7 : Int32)) <<< ((18 : Int32) &&& 31)) ||| ((c1 &&& (63 : Int32)) <<< ((12 : Int32) &&& 31))) ||| ((c2 &&& (63 : Int32)) <<< ((6 : Int32) &&& 31))) ||| (c3 &&& (63 : Int32))) = cp := by
  have m0 := c_mask b0 (7 : Int32) 3 (by decide) (by decide)
  have m1 := c_mask c1 (63 : Int32) 6 (by decide) (by decide)
  have m2 := c_mask c2 (63 : Int32) 6 (by decide) (by decide)
  have m3 := c_mask c3 (63 : Int32) 6 (by decide) (by decide)
  have s0 := own_shl (b0 &&& (7 : Int32)) (18 : Int32) 18 rfl (by omega) (by omega)
  have s1 := own_shl (c1 &&& (63 : Int32)) (12 : Int32) 12 rfl (by omega) (by omega)
  have s2 := own_shl (c2 &&& (63 : Int32)) (6 : Int32) 6 rfl (by omega) (by omega)
  have o1 := own_or ((b0 &&& (7 : Int32)) <<< ((18 : Int32) &&& 31)) ((c1 &&& (63 : Int32)) <<< ((12 : Int32) &&& 31)) 18 (by decide) 262144 rfl (by omega) (by omega) (by omega) (by omega) (by omega)
  have o2 := own_or (((b0 &&& (7 : Int32)) <<< ((18 : Int32) &&& 31)) ||| ((c1 &&& (63 : Int32)) <<< ((12 : Int32) &&& 31))) ((c2 &&& (63 : Int32)) <<< ((6 : Int32) &&& 31)) 12 (by decide) 4096 rfl (by omega) (by omega) (by omega) (by omega) (by omega)
  have o := own_or ((((b0 &&& (7 : Int32)) <<< ((18 : Int32) &&& 31)) ||| ((c1 &&& (63 : Int32)) <<< ((12 : Int32) &&& 31))) ||| ((c2 &&& (63 : Int32)) <<< ((6 : Int32) &&& 31))) (c3 &&& (63 : Int32)) 6 (by decide) 64 rfl (by omega) (by omega) (by omega) (by omega) (by omega)
  rw [← Int32.toInt_inj]
  omega
theorem own_lt {x k : Int32} (h : x.toInt < k.toInt) : x < k := Int32.lt_iff_toInt_lt.mpr h
theorem own_ge {x k : Int32} (h : k.toInt ≤ x.toInt) : ¬ x < k := fun q => by rw [Int32.lt_iff_toInt_lt] at q; omega
def OwnW (cp want : Int32) : Prop := (want = (1 : Int32) ∧ 0 ≤ cp.toInt ∧ cp.toInt < 128) ∨ (want = (2 : Int32) ∧ 128 ≤ cp.toInt ∧ cp.toInt < 2048) ∨ (want = (3 : Int32) ∧ 2048 ≤ cp.toInt ∧ cp.toInt < 65536) ∨ (want = (4 : Int32) ∧ 65536 ≤ cp.toInt ∧ cp.toInt < 1114112)
theorem own_w1 (r : Int32) : OwnW (r &&& (127 : Int32)) (1 : Int32) := by
  have m := c_mask r (127 : Int32) 7 (by decide) (by decide)
  exact Or.inl ⟨rfl, by omega, by omega⟩
theorem own_rem (x d : Int32) (dv : Int) (hd : d.toInt = dv) (hpos : 0 < dv) : 0 ≤ ((x &&& (2147483647 : Int32)) % d).toInt ∧ ((x &&& (2147483647 : Int32)) % d).toInt < dv := by
  have h := (c_and x (2147483647 : Int32) (by decide)).1
  have q := (c_irem (x &&& (2147483647 : Int32)) d dv hd).1 h
  exact ⟨by rw [q]; exact Int.emod_nonneg _ (by omega), by rw [q]; exact Int.emod_lt_of_pos _ hpos⟩
theorem own_w2 (x : Int32) : OwnW ((128 : Int32) + ((x &&& (2147483647 : Int32)) % (1920 : Int32))) (2 : Int32) := by
  have m := own_rem x (1920 : Int32) 1920 rfl (by decide)
  have a := c_iadd (128 : Int32) ((x &&& (2147483647 : Int32)) % (1920 : Int32))
  have r := rng32 ((128 : Int32) + ((x &&& (2147483647 : Int32)) % (1920 : Int32)))
  have e : (128 : Int32).toInt = 128 := rfl
  exact Or.inr (Or.inl ⟨rfl, by omega, by omega⟩)
theorem own_w3 (x : Int32) (h : ((2048 : Int32) + ((x &&& (2147483647 : Int32)) % (61440 : Int32))) < (55296 : Int32)) : OwnW ((2048 : Int32) + ((x &&& (2147483647 : Int32)) % (61440 : Int32))) (3 : Int32) := by
  have m := own_rem x (61440 : Int32) 61440 rfl (by decide)
  have a := c_iadd (2048 : Int32) ((x &&& (2147483647 : Int32)) % (61440 : Int32))
  have r := rng32 ((2048 : Int32) + ((x &&& (2147483647 : Int32)) % (61440 : Int32)))
  have e : (2048 : Int32).toInt = 2048 := rfl
  exact Or.inr (Or.inr (Or.inl ⟨rfl, by omega, by omega⟩))
theorem own_w3' (x : Int32) (h : ¬ ((2048 : Int32) + ((x &&& (2147483647 : Int32)) % (61440 : Int32))) < (55296 : Int32)) : OwnW (((2048 : Int32) + ((x &&& (2147483647 : Int32)) % (61440 : Int32))) + (2048 : Int32)) (3 : Int32) := by
  have m := own_rem x (61440 : Int32) 61440 rfl (by decide)
  have a := c_iadd (2048 : Int32) ((x &&& (2147483647 : Int32)) % (61440 : Int32))
  have r := rng32 ((2048 : Int32) + ((x &&& (2147483647 : Int32)) % (61440 : Int32)))
  have e : (2048 : Int32).toInt = 2048 := rfl
  have a2 := c_iadd ((2048 : Int32) + ((x &&& (2147483647 : Int32)) % (61440 : Int32))) (2048 : Int32)
  have r2 := rng32 (((2048 : Int32) + ((x &&& (2147483647 : Int32)) % (61440 : Int32))) + (2048 : Int32))
  exact Or.inr (Or.inr (Or.inl ⟨rfl, by omega, by omega⟩))
theorem own_w4 (x : Int32) : OwnW ((65536 : Int32) + ((x &&& (2147483647 : Int32)) % (1048576 : Int32))) (4 : Int32) := by
  have m := own_rem x (1048576 : Int32) 1048576 rfl (by decide)
  have a := c_iadd (65536 : Int32) ((x &&& (2147483647 : Int32)) % (1048576 : Int32))
  have r := rng32 ((65536 : Int32) + ((x &&& (2147483647 : Int32)) % (1048576 : Int32)))
  have e : (65536 : Int32).toInt = 65536 := rfl
  exact Or.inr (Or.inr (Or.inr ⟨rfl, by omega, by omega⟩))
theorem own_hk {f : Nat → Int32} {ov fb : Int32} (nv : Int32) (n : Nat) (hn : nv.toInt = n) (hn4 : n ≤ 4) (h0 : 0 ≤ ov.toInt) (h1 : ov.toInt ≤ 3) (hk : ∀ i, i < ov.toNatClampNeg ∨ ov.toNatClampNeg + n ≤ i → f i = fb) : ∀ i : Int32, 0 ≤ i.toInt → (i < ov ∨ ¬ i < (ov + nv)) → f i.toNatClampNeg = fb := by
  intro i hi h
  have q := own_nat h0
  have q2 := own_nat hi
  have e := (own_ix nv n hn hn4 h0 h1).2
  simp only [Int32.lt_iff_toInt_lt] at h
  exact hk _ (by omega)

theorem d1_0 : decode prog_87_method_12_code 0 = .ok (.iload_n 0, 1) := by decide +kernel
theorem d1_1 : decode prog_87_method_12_code 1 = .ok (.sipush 128, 3) := by decide +kernel
theorem d1_4 : decode prog_87_method_12_code 4 = .ok (.if_icmp .ge 8, 3) := by decide +kernel
theorem d1_7 : decode prog_87_method_12_code 7 = .ok (.iconst 1, 1) := by decide +kernel
theorem d1_8 : decode prog_87_method_12_code 8 = .ok (.istore_n 3, 1) := by decide +kernel
theorem d1_9 : decode prog_87_method_12_code 9 = .ok (.goto 28, 3) := by decide +kernel
theorem d1_12 : decode prog_87_method_12_code 12 = .ok (.iload_n 0, 1) := by decide +kernel
theorem d1_13 : decode prog_87_method_12_code 13 = .ok (.sipush 2048, 3) := by decide +kernel
theorem d1_16 : decode prog_87_method_12_code 16 = .ok (.if_icmp .ge 8, 3) := by decide +kernel
theorem d1_19 : decode prog_87_method_12_code 19 = .ok (.iconst 2, 1) := by decide +kernel
theorem d1_20 : decode prog_87_method_12_code 20 = .ok (.istore_n 3, 1) := by decide +kernel
theorem d1_21 : decode prog_87_method_12_code 21 = .ok (.goto 16, 3) := by decide +kernel
theorem d1_24 : decode prog_87_method_12_code 24 = .ok (.iload_n 0, 1) := by decide +kernel
theorem d1_25 : decode prog_87_method_12_code 25 = .ok (.ldc 85, 2) := by decide +kernel
theorem d1_27 : decode prog_87_method_12_code 27 = .ok (.if_icmp .ge 8, 3) := by decide +kernel
theorem d1_30 : decode prog_87_method_12_code 30 = .ok (.iconst 3, 1) := by decide +kernel
theorem d1_31 : decode prog_87_method_12_code 31 = .ok (.istore_n 3, 1) := by decide +kernel
theorem d1_32 : decode prog_87_method_12_code 32 = .ok (.goto 5, 3) := by decide +kernel
theorem d1_35 : decode prog_87_method_12_code 35 = .ok (.iconst 4, 1) := by decide +kernel
theorem d1_36 : decode prog_87_method_12_code 36 = .ok (.istore_n 3, 1) := by decide +kernel
theorem d1_37 : decode prog_87_method_12_code 37 = .ok (.aload_n 1, 1) := by decide +kernel
theorem d1_38 : decode prog_87_method_12_code 38 = .ok (.iload_n 2, 1) := by decide +kernel
theorem d1_39 : decode prog_87_method_12_code 39 = .ok (.getstatic 86, 3) := by decide +kernel
theorem d1_42 : decode prog_87_method_12_code 42 = .ok (.iload_n 3, 1) := by decide +kernel
theorem d1_43 : decode prog_87_method_12_code 43 = .ok (.iaload, 1) := by decide +kernel
theorem d1_44 : decode prog_87_method_12_code 44 = .ok (.iload_n 0, 1) := by decide +kernel
theorem d1_45 : decode prog_87_method_12_code 45 = .ok (.bipush 6, 2) := by decide +kernel
theorem d1_47 : decode prog_87_method_12_code 47 = .ok (.iload_n 3, 1) := by decide +kernel
theorem d1_48 : decode prog_87_method_12_code 48 = .ok (.iconst 1, 1) := by decide +kernel
theorem d1_49 : decode prog_87_method_12_code 49 = .ok (.isub, 1) := by decide +kernel
theorem d1_50 : decode prog_87_method_12_code 50 = .ok (.imul, 1) := by decide +kernel
theorem d1_51 : decode prog_87_method_12_code 51 = .ok (.ishr, 1) := by decide +kernel
theorem d1_52 : decode prog_87_method_12_code 52 = .ok (.ior, 1) := by decide +kernel
theorem d1_53 : decode prog_87_method_12_code 53 = .ok (.i2b, 1) := by decide +kernel
theorem d1_54 : decode prog_87_method_12_code 54 = .ok (.bastore, 1) := by decide +kernel
theorem d1_55 : decode prog_87_method_12_code 55 = .ok (.iconst 1, 1) := by decide +kernel
theorem d1_56 : decode prog_87_method_12_code 56 = .ok (.istore 4, 2) := by decide +kernel
theorem d1_58 : decode prog_87_method_12_code 58 = .ok (.iload 4, 2) := by decide +kernel
theorem d1_60 : decode prog_87_method_12_code 60 = .ok (.iload_n 3, 1) := by decide +kernel
theorem d1_61 : decode prog_87_method_12_code 61 = .ok (.if_icmp .ge 34, 3) := by decide +kernel
theorem d1_64 : decode prog_87_method_12_code 64 = .ok (.aload_n 1, 1) := by decide +kernel
theorem d1_65 : decode prog_87_method_12_code 65 = .ok (.iload_n 2, 1) := by decide +kernel
theorem d1_66 : decode prog_87_method_12_code 66 = .ok (.iload 4, 2) := by decide +kernel
theorem d1_68 : decode prog_87_method_12_code 68 = .ok (.iadd, 1) := by decide +kernel
theorem d1_69 : decode prog_87_method_12_code 69 = .ok (.sipush 128, 3) := by decide +kernel
theorem d1_72 : decode prog_87_method_12_code 72 = .ok (.iload_n 0, 1) := by decide +kernel
theorem d1_73 : decode prog_87_method_12_code 73 = .ok (.bipush 6, 2) := by decide +kernel
theorem d1_75 : decode prog_87_method_12_code 75 = .ok (.iload_n 3, 1) := by decide +kernel
theorem d1_76 : decode prog_87_method_12_code 76 = .ok (.iconst 1, 1) := by decide +kernel
theorem d1_77 : decode prog_87_method_12_code 77 = .ok (.isub, 1) := by decide +kernel
theorem d1_78 : decode prog_87_method_12_code 78 = .ok (.iload 4, 2) := by decide +kernel
theorem d1_80 : decode prog_87_method_12_code 80 = .ok (.isub, 1) := by decide +kernel
theorem d1_81 : decode prog_87_method_12_code 81 = .ok (.imul, 1) := by decide +kernel
theorem d1_82 : decode prog_87_method_12_code 82 = .ok (.ishr, 1) := by decide +kernel
theorem d1_83 : decode prog_87_method_12_code 83 = .ok (.bipush 63, 2) := by decide +kernel
theorem d1_85 : decode prog_87_method_12_code 85 = .ok (.iand, 1) := by decide +kernel
theorem d1_86 : decode prog_87_method_12_code 86 = .ok (.ior, 1) := by decide +kernel
theorem d1_87 : decode prog_87_method_12_code 87 = .ok (.i2b, 1) := by decide +kernel
theorem d1_88 : decode prog_87_method_12_code 88 = .ok (.bastore, 1) := by decide +kernel
theorem d1_89 : decode prog_87_method_12_code 89 = .ok (.iinc 4 1, 3) := by decide +kernel
theorem d1_92 : decode prog_87_method_12_code 92 = .ok (.goto (-34), 3) := by decide +kernel
theorem d1_95 : decode prog_87_method_12_code 95 = .ok (.iload_n 3, 1) := by decide +kernel
theorem d1_96 : decode prog_87_method_12_code 96 = .ok (.ireturn, 1) := by decide +kernel
theorem pn_1 : plainFor (⟨"com/example/opledger/opledger/Utf8", "encode", "(I[BI)I"⟩ : MethodName) = true := plainFor_of_name (by first | (simp [plainName, overriddenIn]; done) | decide +kernel)
theorem ef_rmE1 (m : MethodId) (x0 : Int32) (x1 : Addr) (x2 : Int32) : entryFrame m #[(.int x0), (.ref x1), (.int x2)] 5 = mkF m 0 #[.val (.int x0), .val (.ref x1), .val (.int x2), .unset, .unset] [] := by first | (simp [entryFrame, mkF, argsToLocals, Value.category]; done) | rfl
def Q_rmE1 (Z : State) (cp : Int32) (a2 : Addr) (ov fb : Int32) (wL : Addr) (kL : ClassId) (h0 : Heap) (n0 : Nat) (v : Option Value) (h : Heap) (L : List Loc) : Prop := ∃ f, v = some (.int (1 : Int32)) ∧ Fr n0 L ∧ Keep h0 h [a2] ∧ OwnB Z h a2 f ∧ f (ov.toNatClampNeg) = (((0 : Int32) ||| (cp >>> ((0 : Int32) &&& 31))).toInt8.toInt32) ∧ ∀ i, i < ov.toNatClampNeg ∨ ov.toNatClampNeg + 1 ≤ i → f i = fb
set_option maxRecDepth 65536 in
set_option maxHeartbeats 40000000 in
theorem rmE1 (l : Launch) (Z : State) (a0 : Array Value) (hw : ∀ d ∈ tables_1, d.before a0 Z = true) (ws : List Jvm.Cond) (cp : Int32) (a2 : Addr) (ov fb : Int32) (wL : Addr) (kL : ClassId) (h0 : Heap) (n0 : Nat) (Z0 : n0 ≤ h0.size) (O0 : Old Z n0 h0) (S_LEAD : Sta Z Z.heap "com/example/opledger/opledger/Utf8" "LEAD_BITS" "[I" (.ref wL)) (VL : Arv Z Z.heap wL kL .int (5 : Int32) [(.int (0 : Int32)), (.int (0 : Int32)), (.int (192 : Int32)), (.int (224 : Int32)), (.int (240 : Int32))] (.int (0 : Int32))) (g2 : n0 ≤ a2) (OB : OwnB Z h0 a2 (fun _ => fb)) (hl : 0 ≤ cp.toInt) (hu : cp.toInt < 128) (ho1 : 0 ≤ ov.toInt) (ho2 : ov.toInt ≤ 3) :
    MetFree l (⟨"com/example/opledger/opledger/Utf8", "encode", "(I[BI)I"⟩ : MethodName) (head1 (Jvm.Cond.code (⟨"com/example/opledger/opledger/Utf8", "encode", "(I[BI)I"⟩ : MethodName) prog_87_method_12_code 5 (some .int) :: ws) ({ frames := 0, cells := 0, slots := 0, locals := 0 } : Room)) (fun a U => a = #[(.int cp), (.ref a2), (.int ov)] ∧ Z.Warmed39 U.vm ∧ U.heap = h0) (fun _ _ _ _ _ => True) (fun _ U o U' => ∃ v L, o = .returned v ∧ Q_rmE1 Z cp a2 ov fb wL kL h0 n0 v U'.heap L ∧ FrameEnd U o U' L ({ frames := 0, cells := 0, slots := 0, locals := 0 } : Room).cells ({ frames := 0, cells := 0, slots := 0, locals := 0 } : Room).slots) := by
  refine own_body (Q := fun v h L => Q_rmE1 Z cp a2 ov fb wL kL h0 n0 v h L) pn_1 ?_
  intro p e s m below meth c s₁ G X0 hx hZ hby hml hown hnm hrt e0 hG hF
  have hown : s.vm.findClass "com/example/opledger/opledger/Utf8" = some m.cls := hown
  have N0 := Fr.nil n0
  rw [ef_rmE1 m cp a2 ov]
  show G (s₁.setTop (mkF m 0 #[.val (.int cp), .val (.ref a2), .val (.int ov), .unset, .unset] []))
  refine hG _ (s₁.setTop (mkF m 39 #[.val (.int cp), .val (.ref a2), .val (.int ov), .val (.int (1 : Int32)), .unset] [(.int ov), (.ref a2)])) (fun t₀ k₀ => ?_) ?_
  · show Steps p.tables e below (s₁.setTop (mkF m 0 #[.val (.int cp), .val (.ref a2), .val (.int ov), .unset, .unset] [])) t₀
    refine XS.iloadN X0.here hx rfl (hb hby d1_0) rfl ?_
    show Steps p.tables e below (s₁.setTop (mkF m 1 #[.val (.int cp), .val (.ref a2), .val (.int ov), .unset, .unset] [(.int cp)])) t₀
    refine XS.sipush X0.here hx rfl (hb hby d1_1) ?_
    show Steps p.tables e below (s₁.setTop (mkF m 4 #[.val (.int cp), .val (.ref a2), .val (.int ov), .unset, .unset] [(.int (128 : Int32)), (.int cp)])) t₀
    refine XS.icmpNo X0.here hx rfl (hb hby d1_4) rfl (tlt (own_lt (k := (128 : Int32)) (Int.lt_of_lt_of_le hu (by decide)))).2.1 ?_
    show Steps p.tables e below (s₁.setTop (mkF m 7 #[.val (.int cp), .val (.ref a2), .val (.int ov), .unset, .unset] [])) t₀
    refine XS.iconst X0.here hx rfl (hb hby d1_7) ?_
    show Steps p.tables e below (s₁.setTop (mkF m 8 #[.val (.int cp), .val (.ref a2), .val (.int ov), .unset, .unset] [(.int (1 : Int32))])) t₀
    refine XS.istoreN X0.here hx rfl (hb hby d1_8) rfl (l' := #[.val (.int cp), .val (.ref a2), .val (.int ov), .val (.int (1 : Int32)), .unset]) rfl ?_
    show Steps p.tables e below (s₁.setTop (mkF m 9 #[.val (.int cp), .val (.ref a2), .val (.int ov), .val (.int (1 : Int32)), .unset] [])) t₀
    refine XS.goto X0.here hx rfl (pc0 := 9) (pc' := 37) rfl (hb hby d1_9) (by decide) (by decide) ?_
    show Steps p.tables e below (s₁.setTop (mkF m 37 #[.val (.int cp), .val (.ref a2), .val (.int ov), .val (.int (1 : Int32)), .unset] [])) t₀
    refine XS.aloadN X0.here hx rfl (hb hby d1_37) rfl rfl ?_
    show Steps p.tables e below (s₁.setTop (mkF m 38 #[.val (.int cp), .val (.ref a2), .val (.int ov), .val (.int (1 : Int32)), .unset] [(.ref a2)])) t₀
    refine XS.iloadN X0.here hx rfl (hb hby d1_38) rfl ?_
    exact k₀
  obtain ⟨T1, X1, e1, st1⟩ := getS2 X0 hx hZ hown (host := "") (Or.inl (hw _ (List.mem_of_getElem? (i := 6) rfl))) Via.refl e0 (S_LEAD.ext O0.2) (g := (mkF m 39 #[.val (.int cp), .val (.ref a2), .val (.int ov), .val (.int (1 : Int32)), .unset] [(.int ov), (.ref a2)])) rfl (hb hby d1_39)
  refine hG _ _ (fun t₀ k₀ => st1 _ k₀) ?_
  show G (T1.setTop (mkF m 42 #[.val (.int cp), .val (.ref a2), .val (.int ov), .val (.int (1 : Int32)), .unset] [(.ref wL), (.int ov), (.ref a2)]))
  refine hG _ (T1.setTop (mkF m 43 #[.val (.int cp), .val (.ref a2), .val (.int ov), .val (.int (1 : Int32)), .unset] [(.int (1 : Int32)), (.ref wL), (.int ov), (.ref a2)])) (fun t₀ k₀ => ?_) ?_
  · show Steps p.tables e below (T1.setTop (mkF m 42 #[.val (.int cp), .val (.ref a2), .val (.int ov), .val (.int (1 : Int32)), .unset] [(.ref wL), (.int ov), (.ref a2)])) t₀
    refine XS.iloadN X1.here hx rfl (hb hby d1_42) rfl ?_
    exact k₀
  have ov2 := (VL.ext O0.2)
  obtain ⟨cl2, Ar2, q2, S2, N_2, H_2, G_2⟩ := ov2
  have hin2 : ¬ ((1 : Int32) < 0 ∨ cl2.slots.size ≤ ((1 : Int32)).toNatClampNeg) := inb_of S2 ⟨by decide, by decide⟩
  have hat2 : cl2.slots[((1 : Int32)).toNatClampNeg]? = some (.int (0 : Int32)) := H_2.at hin2 rfl
  refine hG _ (T1.setTop (mkF m 54 #[.val (.int cp), .val (.ref a2), .val (.int ov), .val (.int (1 : Int32)), .unset] [(.int (((0 : Int32) ||| (cp >>> ((0 : Int32) &&& 31))).toInt8.toInt32)), (.int ov), (.ref a2)])) (fun t₀ k₀ => ?_) ?_
  · show Steps p.tables e below (T1.setTop (mkF m 43 #[.val (.int cp), .val (.ref a2), .val (.int ov), .val (.int (1 : Int32)), .unset] [(.int (1 : Int32)), (.ref wL), (.int ov), (.ref a2)])) t₀
    refine X1.iaload hx (j := (1 : Int32)) (v := (.int (0 : Int32))) (by rw [e1]; exact Ar2.1) (State.isArrayOf_alike hZ.alike Ar2.2.1) Ar2.2.2 hin2 hat2 (g := (mkF m 43 #[.val (.int cp), .val (.ref a2), .val (.int ov), .val (.int (1 : Int32)), .unset] [(.int (1 : Int32)), (.ref wL), (.int ov), (.ref a2)])) rfl rfl (hb hby d1_43) _ ?_
    show Steps p.tables e below (T1.setTop (mkF m 44 #[.val (.int cp), .val (.ref a2), .val (.int ov), .val (.int (1 : Int32)), .unset] [(.int (0 : Int32)), (.int ov), (.ref a2)])) t₀
    refine XS.iloadN X1.here hx rfl (hb hby d1_44) rfl ?_
    show Steps p.tables e below (T1.setTop (mkF m 45 #[.val (.int cp), .val (.ref a2), .val (.int ov), .val (.int (1 : Int32)), .unset] [(.int cp), (.int (0 : Int32)), (.int ov), (.ref a2)])) t₀
    refine XS.bipush X1.here hx rfl (hb hby d1_45) ?_
    show Steps p.tables e below (T1.setTop (mkF m 47 #[.val (.int cp), .val (.ref a2), .val (.int ov), .val (.int (1 : Int32)), .unset] [(.int (6 : Int32)), (.int cp), (.int (0 : Int32)), (.int ov), (.ref a2)])) t₀
    refine XS.iloadN X1.here hx rfl (hb hby d1_47) rfl ?_
    show Steps p.tables e below (T1.setTop (mkF m 48 #[.val (.int cp), .val (.ref a2), .val (.int ov), .val (.int (1 : Int32)), .unset] [(.int (1 : Int32)), (.int (6 : Int32)), (.int cp), (.int (0 : Int32)), (.int ov), (.ref a2)])) t₀
    refine XS.iconst X1.here hx rfl (hb hby d1_48) ?_
    show Steps p.tables e below (T1.setTop (mkF m 49 #[.val (.int cp), .val (.ref a2), .val (.int ov), .val (.int (1 : Int32)), .unset] [(.int (1 : Int32)), (.int (1 : Int32)), (.int (6 : Int32)), (.int cp), (.int (0 : Int32)), (.int ov), (.ref a2)])) t₀
    refine XS.isub X1.here hx rfl (hb hby d1_49) rfl ?_
    show Steps p.tables e below (T1.setTop (mkF m 50 #[.val (.int cp), .val (.ref a2), .val (.int ov), .val (.int (1 : Int32)), .unset] [(.int (0 : Int32)), (.int (6 : Int32)), (.int cp), (.int (0 : Int32)), (.int ov), (.ref a2)])) t₀
    refine XS.imul X1.here hx rfl (hb hby d1_50) rfl ?_
    show Steps p.tables e below (T1.setTop (mkF m 51 #[.val (.int cp), .val (.ref a2), .val (.int ov), .val (.int (1 : Int32)), .unset] [(.int (0 : Int32)), (.int cp), (.int (0 : Int32)), (.int ov), (.ref a2)])) t₀
    refine XS.ishr X1.here hx rfl (hb hby d1_51) rfl ?_
    show Steps p.tables e below (T1.setTop (mkF m 52 #[.val (.int cp), .val (.ref a2), .val (.int ov), .val (.int (1 : Int32)), .unset] [(.int (cp >>> ((0 : Int32) &&& 31))), (.int (0 : Int32)), (.int ov), (.ref a2)])) t₀
    refine XS.ior X1.here hx rfl (hb hby d1_52) rfl ?_
    show Steps p.tables e below (T1.setTop (mkF m 53 #[.val (.int cp), .val (.ref a2), .val (.int ov), .val (.int (1 : Int32)), .unset] [(.int ((0 : Int32) ||| (cp >>> ((0 : Int32) &&& 31)))), (.int ov), (.ref a2)])) t₀
    refine XS.i2b X1.here hx rfl (hb hby d1_53) rfl ?_
    exact k₀
  obtain ⟨cl3, Ar3, sz3, Hf3⟩ := OB
  have hin3 := own_inb (j := ov) sz3 (by omega) (by omega)
  obtain ⟨T4, h4, X4, e4, W4, st4⟩ := stB X1 hx hZ e1 Ar3 (j := ov) hin3 (g := (mkF m 54 #[.val (.int cp), .val (.ref a2), .val (.int ov), .val (.int (1 : Int32)), .unset] [(.int (((0 : Int32) ||| (cp >>> ((0 : Int32) &&& 31))).toInt8.toInt32)), (.int ov), (.ref a2)])) rfl rfl (hb hby d1_54)
  refine hG _ _ (fun t₀ k₀ => st4 _ k₀) ?_
  have N4 := Fr.snoc X4 N0 g2
  have o_x4 := O0.wr W4 g2
  have k_x4 := (Keep.refl h0 [a2]).wr W4 (Or.inl (List.mem_of_getElem? (i := 0) rfl))
  have z_4 : n0 ≤ h4.size := Nat.le_trans Z0 (Keep.of_wr W4).1
  obtain ⟨f4, OB4, at0, rs0⟩ := own_set Ar3 sz3 Hf3 W4
  have at0 : f4 (ov.toNatClampNeg) = (((0 : Int32) ||| (cp >>> ((0 : Int32) &&& 31))).toInt8.toInt32) := at0.trans (own_i2b _)
  show G (T4.setTop (mkF m 55 #[.val (.int cp), .val (.ref a2), .val (.int ov), .val (.int (1 : Int32)), .unset] []))
  refine hG _ (T4.setTop (mkF m 96 #[.val (.int cp), .val (.ref a2), .val (.int ov), .val (.int (1 : Int32)), .val (.int (1 : Int32))] [(.int (1 : Int32))])) (fun t₀ k₀ => ?_) ?_
  · show Steps p.tables e below (T4.setTop (mkF m 55 #[.val (.int cp), .val (.ref a2), .val (.int ov), .val (.int (1 : Int32)), .unset] [])) t₀
    refine XS.iconst X4.here hx rfl (hb hby d1_55) ?_
    show Steps p.tables e below (T4.setTop (mkF m 56 #[.val (.int cp), .val (.ref a2), .val (.int ov), .val (.int (1 : Int32)), .unset] [(.int (1 : Int32))])) t₀
    refine XS.istore X4.here hx rfl (hb hby d1_56) rfl (l' := #[.val (.int cp), .val (.ref a2), .val (.int ov), .val (.int (1 : Int32)), .val (.int (1 : Int32))]) rfl ?_
    show Steps p.tables e below (T4.setTop (mkF m 58 #[.val (.int cp), .val (.ref a2), .val (.int ov), .val (.int (1 : Int32)), .val (.int (1 : Int32))] [])) t₀
    refine XS.iload X4.here hx rfl (hb hby d1_58) rfl ?_
    show Steps p.tables e below (T4.setTop (mkF m 60 #[.val (.int cp), .val (.ref a2), .val (.int ov), .val (.int (1 : Int32)), .val (.int (1 : Int32))] [(.int (1 : Int32))])) t₀
    refine XS.iloadN X4.here hx rfl (hb hby d1_60) rfl ?_
    show Steps p.tables e below (T4.setTop (mkF m 61 #[.val (.int cp), .val (.ref a2), .val (.int ov), .val (.int (1 : Int32)), .val (.int (1 : Int32))] [(.int (1 : Int32)), (.int (1 : Int32))])) t₀
    refine XS.icmpYes X4.here hx rfl (pc0 := 61) (pc' := 95) rfl (hb hby d1_61) rfl (flt (by decide : ¬ ((1 : Int32) < (1 : Int32)))).2.1 (by decide) (by decide) ?_
    show Steps p.tables e below (T4.setTop (mkF m 95 #[.val (.int cp), .val (.ref a2), .val (.int ov), .val (.int (1 : Int32)), .val (.int (1 : Int32))] [])) t₀
    refine XS.iloadN X4.here hx rfl (hb hby d1_95) rfl ?_
    exact k₀
  refine hF _ T4 _ _ _ (some (.int (1 : Int32))) _ X4 e4 (fun h => by rw [hrt] at h; cases h) (by decide) (by decide) ?_ (fun fs hr => own_retI X4 hx hrt (hb hby d1_96) hr)
  exact ⟨_, rfl, N4, k_x4, OB4, (at0), fun i hi => (rs0 i (by omega)).trans (rfl)⟩
theorem ef_rmE2 (m : MethodId) (x0 : Int32) (x1 : Addr) (x2 : Int32) : entryFrame m #[(.int x0), (.ref x1), (.int x2)] 5 = mkF m 0 #[.val (.int x0), .val (.ref x1), .val (.int x2), .unset, .unset] [] := by first | (simp [entryFrame, mkF, argsToLocals, Value.category]; done) | rfl
def Q_rmE2 (Z : State) (cp : Int32) (a2 : Addr) (ov fb : Int32) (wL : Addr) (kL : ClassId) (h0 : Heap) (n0 : Nat) (v : Option Value) (h : Heap) (L : List Loc) : Prop := ∃ f, v = some (.int (2 : Int32)) ∧ Fr n0 L ∧ Keep h0 h [a2] ∧ OwnB Z h a2 f ∧ f (ov.toNatClampNeg) = (((192 : Int32) ||| (cp >>> ((6 : Int32) &&& 31))).toInt8.toInt32) ∧ f (ov.toNatClampNeg + 1) = (((128 : Int32) ||| ((cp >>> ((0 : Int32) &&& 31)) &&& (63 : Int32))).toInt8.toInt32) ∧ ∀ i, i < ov.toNatClampNeg ∨ ov.toNatClampNeg + 2 ≤ i → f i = fb
set_option maxRecDepth 65536 in
set_option maxHeartbeats 40000000 in
theorem rmE2 (l : Launch) (Z : State) (a0 : Array Value) (hw : ∀ d ∈ tables_1, d.before a0 Z = true) (ws : List Jvm.Cond) (cp : Int32) (a2 : Addr) (ov fb : Int32) (wL : Addr) (kL : ClassId) (h0 : Heap) (n0 : Nat) (Z0 : n0 ≤ h0.size) (O0 : Old Z n0 h0) (S_LEAD : Sta Z Z.heap "com/example/opledger/opledger/Utf8" "LEAD_BITS" "[I" (.ref wL)) (VL : Arv Z Z.heap wL kL .int (5 : Int32) [(.int (0 : Int32)), (.int (0 : Int32)), (.int (192 : Int32)), (.int (224 : Int32)), (.int (240 : Int32))] (.int (0 : Int32))) (g2 : n0 ≤ a2) (OB : OwnB Z h0 a2 (fun _ => fb)) (hl : 128 ≤ cp.toInt) (hu : cp.toInt < 2048) (ho1 : 0 ≤ ov.toInt) (ho2 : ov.toInt ≤ 3) :
    MetFree l (⟨"com/example/opledger/opledger/Utf8", "encode", "(I[BI)I"⟩ : MethodName) (head1 (Jvm.Cond.code (⟨"com/example/opledger/opledger/Utf8", "encode", "(I[BI)I"⟩ : MethodName) prog_87_method_12_code 5 (some .int) :: ws) ({ frames := 0, cells := 0, slots := 0, locals := 0 } : Room)) (fun a U => a = #[(.int cp), (.ref a2), (.int ov)] ∧ Z.Warmed39 U.vm ∧ U.heap = h0) (fun _ _ _ _ _ => True) (fun _ U o U' => ∃ v L, o = .returned v ∧ Q_rmE2 Z cp a2 ov fb wL kL h0 n0 v U'.heap L ∧ FrameEnd U o U' L ({ frames := 0, cells := 0, slots := 0, locals := 0 } : Room).cells ({ frames := 0, cells := 0, slots := 0, locals := 0 } : Room).slots) := by
  refine own_body (Q := fun v h L => Q_rmE2 Z cp a2 ov fb wL kL h0 n0 v h L) pn_1 ?_
  intro p e s m below meth c s₁ G X0 hx hZ hby hml hown hnm hrt e0 hG hF
  have hown : s.vm.findClass "com/example/opledger/opledger/Utf8" = some m.cls := hown
  have N0 := Fr.nil n0
  rw [ef_rmE2 m cp a2 ov]
  show G (s₁.setTop (mkF m 0 #[.val (.int cp), .val (.ref a2), .val (.int ov), .unset, .unset] []))
  refine hG _ (s₁.setTop (mkF m 39 #[.val (.int cp), .val (.ref a2), .val (.int ov), .val (.int (2 : Int32)), .unset] [(.int ov), (.ref a2)])) (fun t₀ k₀ => ?_) ?_
  · show Steps p.tables e below (s₁.setTop (mkF m 0 #[.val (.int cp), .val (.ref a2), .val (.int ov), .unset, .unset] [])) t₀
    refine XS.iloadN X0.here hx rfl (hb hby d1_0) rfl ?_
    show Steps p.tables e below (s₁.setTop (mkF m 1 #[.val (.int cp), .val (.ref a2), .val (.int ov), .unset, .unset] [(.int cp)])) t₀
    refine XS.sipush X0.here hx rfl (hb hby d1_1) ?_
    show Steps p.tables e below (s₁.setTop (mkF m 4 #[.val (.int cp), .val (.ref a2), .val (.int ov), .unset, .unset] [(.int (128 : Int32)), (.int cp)])) t₀
    refine XS.icmpYes X0.here hx rfl (pc0 := 4) (pc' := 12) rfl (hb hby d1_4) rfl (flt (own_ge (k := (128 : Int32)) (Int.le_trans (by decide) hl))).2.1 (by decide) (by decide) ?_
    show Steps p.tables e below (s₁.setTop (mkF m 12 #[.val (.int cp), .val (.ref a2), .val (.int ov), .unset, .unset] [])) t₀
    refine XS.iloadN X0.here hx rfl (hb hby d1_12) rfl ?_
    show Steps p.tables e below (s₁.setTop (mkF m 13 #[.val (.int cp), .val (.ref a2), .val (.int ov), .unset, .unset] [(.int cp)])) t₀
    refine XS.sipush X0.here hx rfl (hb hby d1_13) ?_
    show Steps p.tables e below (s₁.setTop (mkF m 16 #[.val (.int cp), .val (.ref a2), .val (.int ov), .unset, .unset] [(.int (2048 : Int32)), (.int cp)])) t₀
    refine XS.icmpNo X0.here hx rfl (hb hby d1_16) rfl (tlt (own_lt (k := (2048 : Int32)) (Int.lt_of_lt_of_le hu (by decide)))).2.1 ?_
    show Steps p.tables e below (s₁.setTop (mkF m 19 #[.val (.int cp), .val (.ref a2), .val (.int ov), .unset, .unset] [])) t₀
    refine XS.iconst X0.here hx rfl (hb hby d1_19) ?_
    show Steps p.tables e below (s₁.setTop (mkF m 20 #[.val (.int cp), .val (.ref a2), .val (.int ov), .unset, .unset] [(.int (2 : Int32))])) t₀
    refine XS.istoreN X0.here hx rfl (hb hby d1_20) rfl (l' := #[.val (.int cp), .val (.ref a2), .val (.int ov), .val (.int (2 : Int32)), .unset]) rfl ?_
    show Steps p.tables e below (s₁.setTop (mkF m 21 #[.val (.int cp), .val (.ref a2), .val (.int ov), .val (.int (2 : Int32)), .unset] [])) t₀
    refine XS.goto X0.here hx rfl (pc0 := 21) (pc' := 37) rfl (hb hby d1_21) (by decide) (by decide) ?_
    show Steps p.tables e below (s₁.setTop (mkF m 37 #[.val (.int cp), .val (.ref a2), .val (.int ov), .val (.int (2 : Int32)), .unset] [])) t₀
    refine XS.aloadN X0.here hx rfl (hb hby d1_37) rfl rfl ?_
    show Steps p.tables e below (s₁.setTop (mkF m 38 #[.val (.int cp), .val (.ref a2), .val (.int ov), .val (.int (2 : Int32)), .unset] [(.ref a2)])) t₀
    refine XS.iloadN X0.here hx rfl (hb hby d1_38) rfl ?_
    exact k₀
  obtain ⟨T1, X1, e1, st1⟩ := getS2 X0 hx hZ hown (host := "") (Or.inl (hw _ (List.mem_of_getElem? (i := 6) rfl))) Via.refl e0 (S_LEAD.ext O0.2) (g := (mkF m 39 #[.val (.int cp), .val (.ref a2), .val (.int ov), .val (.int (2 : Int32)), .unset] [(.int ov), (.ref a2)])) rfl (hb hby d1_39)
  refine hG _ _ (fun t₀ k₀ => st1 _ k₀) ?_
  show G (T1.setTop (mkF m 42 #[.val (.int cp), .val (.ref a2), .val (.int ov), .val (.int (2 : Int32)), .unset] [(.ref wL), (.int ov), (.ref a2)]))
  refine hG _ (T1.setTop (mkF m 43 #[.val (.int cp), .val (.ref a2), .val (.int ov), .val (.int (2 : Int32)), .unset] [(.int (2 : Int32)), (.ref wL), (.int ov), (.ref a2)])) (fun t₀ k₀ => ?_) ?_
  · show Steps p.tables e below (T1.setTop (mkF m 42 #[.val (.int cp), .val (.ref a2), .val (.int ov), .val (.int (2 : Int32)), .unset] [(.ref wL), (.int ov), (.ref a2)])) t₀
    refine XS.iloadN X1.here hx rfl (hb hby d1_42) rfl ?_
    exact k₀
  have ov2 := (VL.ext O0.2)
  obtain ⟨cl2, Ar2, q2, S2, N_2, H_2, G_2⟩ := ov2
  have hin2 : ¬ ((2 : Int32) < 0 ∨ cl2.slots.size ≤ ((2 : Int32)).toNatClampNeg) := inb_of S2 ⟨by decide, by decide⟩
  have hat2 : cl2.slots[((2 : Int32)).toNatClampNeg]? = some (.int (192 : Int32)) := H_2.at hin2 rfl
  refine hG _ (T1.setTop (mkF m 54 #[.val (.int cp), .val (.ref a2), .val (.int ov), .val (.int (2 : Int32)), .unset] [(.int (((192 : Int32) ||| (cp >>> ((6 : Int32) &&& 31))).toInt8.toInt32)), (.int ov), (.ref a2)])) (fun t₀ k₀ => ?_) ?_
  · show Steps p.tables e below (T1.setTop (mkF m 43 #[.val (.int cp), .val (.ref a2), .val (.int ov), .val (.int (2 : Int32)), .unset] [(.int (2 : Int32)), (.ref wL), (.int ov), (.ref a2)])) t₀
    refine X1.iaload hx (j := (2 : Int32)) (v := (.int (192 : Int32))) (by rw [e1]; exact Ar2.1) (State.isArrayOf_alike hZ.alike Ar2.2.1) Ar2.2.2 hin2 hat2 (g := (mkF m 43 #[.val (.int cp), .val (.ref a2), .val (.int ov), .val (.int (2 : Int32)), .unset] [(.int (2 : Int32)), (.ref wL), (.int ov), (.ref a2)])) rfl rfl (hb hby d1_43) _ ?_
    show Steps p.tables e below (T1.setTop (mkF m 44 #[.val (.int cp), .val (.ref a2), .val (.int ov), .val (.int (2 : Int32)), .unset] [(.int (192 : Int32)), (.int ov), (.ref a2)])) t₀
    refine XS.iloadN X1.here hx rfl (hb hby d1_44) rfl ?_
    show Steps p.tables e below (T1.setTop (mkF m 45 #[.val (.int cp), .val (.ref a2), .val (.int ov), .val (.int (2 : Int32)), .unset] [(.int cp), (.int (192 : Int32)), (.int ov), (.ref a2)])) t₀
    refine XS.bipush X1.here hx rfl (hb hby d1_45) ?_
    show Steps p.tables e below (T1.setTop (mkF m 47 #[.val (.int cp), .val (.ref a2), .val (.int ov), .val (.int (2 : Int32)), .unset] [(.int (6 : Int32)), (.int cp), (.int (192 : Int32)), (.int ov), (.ref a2)])) t₀
    refine XS.iloadN X1.here hx rfl (hb hby d1_47) rfl ?_
    show Steps p.tables e below (T1.setTop (mkF m 48 #[.val (.int cp), .val (.ref a2), .val (.int ov), .val (.int (2 : Int32)), .unset] [(.int (2 : Int32)), (.int (6 : Int32)), (.int cp), (.int (192 : Int32)), (.int ov), (.ref a2)])) t₀
    refine XS.iconst X1.here hx rfl (hb hby d1_48) ?_
    show Steps p.tables e below (T1.setTop (mkF m 49 #[.val (.int cp), .val (.ref a2), .val (.int ov), .val (.int (2 : Int32)), .unset] [(.int (1 : Int32)), (.int (2 : Int32)), (.int (6 : Int32)), (.int cp), (.int (192 : Int32)), (.int ov), (.ref a2)])) t₀
    refine XS.isub X1.here hx rfl (hb hby d1_49) rfl ?_
    show Steps p.tables e below (T1.setTop (mkF m 50 #[.val (.int cp), .val (.ref a2), .val (.int ov), .val (.int (2 : Int32)), .unset] [(.int (1 : Int32)), (.int (6 : Int32)), (.int cp), (.int (192 : Int32)), (.int ov), (.ref a2)])) t₀
    refine XS.imul X1.here hx rfl (hb hby d1_50) rfl ?_
    show Steps p.tables e below (T1.setTop (mkF m 51 #[.val (.int cp), .val (.ref a2), .val (.int ov), .val (.int (2 : Int32)), .unset] [(.int (6 : Int32)), (.int cp), (.int (192 : Int32)), (.int ov), (.ref a2)])) t₀
    refine XS.ishr X1.here hx rfl (hb hby d1_51) rfl ?_
    show Steps p.tables e below (T1.setTop (mkF m 52 #[.val (.int cp), .val (.ref a2), .val (.int ov), .val (.int (2 : Int32)), .unset] [(.int (cp >>> ((6 : Int32) &&& 31))), (.int (192 : Int32)), (.int ov), (.ref a2)])) t₀
    refine XS.ior X1.here hx rfl (hb hby d1_52) rfl ?_
    show Steps p.tables e below (T1.setTop (mkF m 53 #[.val (.int cp), .val (.ref a2), .val (.int ov), .val (.int (2 : Int32)), .unset] [(.int ((192 : Int32) ||| (cp >>> ((6 : Int32) &&& 31)))), (.int ov), (.ref a2)])) t₀
    refine XS.i2b X1.here hx rfl (hb hby d1_53) rfl ?_
    exact k₀
  obtain ⟨cl3, Ar3, sz3, Hf3⟩ := OB
  have hin3 := own_inb (j := ov) sz3 (by omega) (by omega)
  obtain ⟨T4, h4, X4, e4, W4, st4⟩ := stB X1 hx hZ e1 Ar3 (j := ov) hin3 (g := (mkF m 54 #[.val (.int cp), .val (.ref a2), .val (.int ov), .val (.int (2 : Int32)), .unset] [(.int (((192 : Int32) ||| (cp >>> ((6 : Int32) &&& 31))).toInt8.toInt32)), (.int ov), (.ref a2)])) rfl rfl (hb hby d1_54)
  refine hG _ _ (fun t₀ k₀ => st4 _ k₀) ?_
  have N4 := Fr.snoc X4 N0 g2
  have o_x4 := O0.wr W4 g2
  have k_x4 := (Keep.refl h0 [a2]).wr W4 (Or.inl (List.mem_of_getElem? (i := 0) rfl))
  have z_4 : n0 ≤ h4.size := Nat.le_trans Z0 (Keep.of_wr W4).1
  obtain ⟨f4, OB4, at0, rs0⟩ := own_set Ar3 sz3 Hf3 W4
  have at0 : f4 (ov.toNatClampNeg) = (((192 : Int32) ||| (cp >>> ((6 : Int32) &&& 31))).toInt8.toInt32) := at0.trans (own_i2b _)
  show G (T4.setTop (mkF m 55 #[.val (.int cp), .val (.ref a2), .val (.int ov), .val (.int (2 : Int32)), .unset] []))
  refine hG _ (T4.setTop (mkF m 88 #[.val (.int cp), .val (.ref a2), .val (.int ov), .val (.int (2 : Int32)), .val (.int (1 : Int32))] [(.int (((128 : Int32) ||| ((cp >>> ((0 : Int32) &&& 31)) &&& (63 : Int32))).toInt8.toInt32)), (.int (ov + (1 : Int32))), (.ref a2)])) (fun t₀ k₀ => ?_) ?_
  · show Steps p.tables e below (T4.setTop (mkF m 55 #[.val (.int cp), .val (.ref a2), .val (.int ov), .val (.int (2 : Int32)), .unset] [])) t₀
    refine XS.iconst X4.here hx rfl (hb hby d1_55) ?_
    show Steps p.tables e below (T4.setTop (mkF m 56 #[.val (.int cp), .val (.ref a2), .val (.int ov), .val (.int (2 : Int32)), .unset] [(.int (1 : Int32))])) t₀
    refine XS.istore X4.here hx rfl (hb hby d1_56) rfl (l' := #[.val (.int cp), .val (.ref a2), .val (.int ov), .val (.int (2 : Int32)), .val (.int (1 : Int32))]) rfl ?_
    show Steps p.tables e below (T4.setTop (mkF m 58 #[.val (.int cp), .val (.ref a2), .val (.int ov), .val (.int (2 : Int32)), .val (.int (1 : Int32))] [])) t₀
    refine XS.iload X4.here hx rfl (hb hby d1_58) rfl ?_
    show Steps p.tables e below (T4.setTop (mkF m 60 #[.val (.int cp), .val (.ref a2), .val (.int ov), .val (.int (2 : Int32)), .val (.int (1 : Int32))] [(.int (1 : Int32))])) t₀
    refine XS.iloadN X4.here hx rfl (hb hby d1_60) rfl ?_
    show Steps p.tables e below (T4.setTop (mkF m 61 #[.val (.int cp), .val (.ref a2), .val (.int ov), .val (.int (2 : Int32)), .val (.int (1 : Int32))] [(.int (2 : Int32)), (.int (1 : Int32))])) t₀
    refine XS.icmpNo X4.here hx rfl (hb hby d1_61) rfl (tlt (by decide : ((1 : Int32) < (2 : Int32)))).2.1 ?_
    show Steps p.tables e below (T4.setTop (mkF m 64 #[.val (.int cp), .val (.ref a2), .val (.int ov), .val (.int (2 : Int32)), .val (.int (1 : Int32))] [])) t₀
    refine XS.aloadN X4.here hx rfl (hb hby d1_64) rfl rfl ?_
    show Steps p.tables e below (T4.setTop (mkF m 65 #[.val (.int cp), .val (.ref a2), .val (.int ov), .val (.int (2 : Int32)), .val (.int (1 : Int32))] [(.ref a2)])) t₀
    refine XS.iloadN X4.here hx rfl (hb hby d1_65) rfl ?_
    show Steps p.tables e below (T4.setTop (mkF m 66 #[.val (.int cp), .val (.ref a2), .val (.int ov), .val (.int (2 : Int32)), .val (.int (1 : Int32))] [(.int ov), (.ref a2)])) t₀
    refine XS.iload X4.here hx rfl (hb hby d1_66) rfl ?_
    show Steps p.tables e below (T4.setTop (mkF m 68 #[.val (.int cp), .val (.ref a2), .val (.int ov), .val (.int (2 : Int32)), .val (.int (1 : Int32))] [(.int (1 : Int32)), (.int ov), (.ref a2)])) t₀
    refine XS.iadd X4.here hx rfl (hb hby d1_68) rfl ?_
    show Steps p.tables e below (T4.setTop (mkF m 69 #[.val (.int cp), .val (.ref a2), .val (.int ov), .val (.int (2 : Int32)), .val (.int (1 : Int32))] [(.int (ov + (1 : Int32))), (.ref a2)])) t₀
    refine XS.sipush X4.here hx rfl (hb hby d1_69) ?_
    show Steps p.tables e below (T4.setTop (mkF m 72 #[.val (.int cp), .val (.ref a2), .val (.int ov), .val (.int (2 : Int32)), .val (.int (1 : Int32))] [(.int (128 : Int32)), (.int (ov + (1 : Int32))), (.ref a2)])) t₀
    refine XS.iloadN X4.here hx rfl (hb hby d1_72) rfl ?_
    show Steps p.tables e below (T4.setTop (mkF m 73 #[.val (.int cp), .val (.ref a2), .val (.int ov), .val (.int (2 : Int32)), .val (.int (1 : Int32))] [(.int cp), (.int (128 : Int32)), (.int (ov + (1 : Int32))), (.ref a2)])) t₀
    refine XS.bipush X4.here hx rfl (hb hby d1_73) ?_
    show Steps p.tables e below (T4.setTop (mkF m 75 #[.val (.int cp), .val (.ref a2), .val (.int ov), .val (.int (2 : Int32)), .val (.int (1 : Int32))] [(.int (6 : Int32)), (.int cp), (.int (128 : Int32)), (.int (ov + (1 : Int32))), (.ref a2)])) t₀
    refine XS.iloadN X4.here hx rfl (hb hby d1_75) rfl ?_
    show Steps p.tables e below (T4.setTop (mkF m 76 #[.val (.int cp), .val (.ref a2), .val (.int ov), .val (.int (2 : Int32)), .val (.int (1 : Int32))] [(.int (2 : Int32)), (.int (6 : Int32)), (.int cp), (.int (128 : Int32)), (.int (ov + (1 : Int32))), (.ref a2)])) t₀
    refine XS.iconst X4.here hx rfl (hb hby d1_76) ?_
    show Steps p.tables e below (T4.setTop (mkF m 77 #[.val (.int cp), .val (.ref a2), .val (.int ov), .val (.int (2 : Int32)), .val (.int (1 : Int32))] [(.int (1 : Int32)), (.int (2 : Int32)), (.int (6 : Int32)), (.int cp), (.int (128 : Int32)), (.int (ov + (1 : Int32))), (.ref a2)])) t₀
    refine XS.isub X4.here hx rfl (hb hby d1_77) rfl ?_
    show Steps p.tables e below (T4.setTop (mkF m 78 #[.val (.int cp), .val (.ref a2), .val (.int ov), .val (.int (2 : Int32)), .val (.int (1 : Int32))] [(.int (1 : Int32)), (.int (6 : Int32)), (.int cp), (.int (128 : Int32)), (.int (ov + (1 : Int32))), (.ref a2)])) t₀
    refine XS.iload X4.here hx rfl (hb hby d1_78) rfl ?_
    show Steps p.tables e below (T4.setTop (mkF m 80 #[.val (.int cp), .val (.ref a2), .val (.int ov), .val (.int (2 : Int32)), .val (.int (1 : Int32))] [(.int (1 : Int32)), (.int (1 : Int32)), (.int (6 : Int32)), (.int cp), (.int (128 : Int32)), (.int (ov + (1 : Int32))), (.ref a2)])) t₀
    refine XS.isub X4.here hx rfl (hb hby d1_80) rfl ?_
    show Steps p.tables e below (T4.setTop (mkF m 81 #[.val (.int cp), .val (.ref a2), .val (.int ov), .val (.int (2 : Int32)), .val (.int (1 : Int32))] [(.int (0 : Int32)), (.int (6 : Int32)), (.int cp), (.int (128 : Int32)), (.int (ov + (1 : Int32))), (.ref a2)])) t₀
    refine XS.imul X4.here hx rfl (hb hby d1_81) rfl ?_
    show Steps p.tables e below (T4.setTop (mkF m 82 #[.val (.int cp), .val (.ref a2), .val (.int ov), .val (.int (2 : Int32)), .val (.int (1 : Int32))] [(.int (0 : Int32)), (.int cp), (.int (128 : Int32)), (.int (ov + (1 : Int32))), (.ref a2)])) t₀
    refine XS.ishr X4.here hx rfl (hb hby d1_82) rfl ?_
    show Steps p.tables e below (T4.setTop (mkF m 83 #[.val (.int cp), .val (.ref a2), .val (.int ov), .val (.int (2 : Int32)), .val (.int (1 : Int32))] [(.int (cp >>> ((0 : Int32) &&& 31))), (.int (128 : Int32)), (.int (ov + (1 : Int32))), (.ref a2)])) t₀
    refine XS.bipush X4.here hx rfl (hb hby d1_83) ?_
    show Steps p.tables e below (T4.setTop (mkF m 85 #[.val (.int cp), .val (.ref a2), .val (.int ov), .val (.int (2 : Int32)), .val (.int (1 : Int32))] [(.int (63 : Int32)), (.int (cp >>> ((0 : Int32) &&& 31))), (.int (128 : Int32)), (.int (ov + (1 : Int32))), (.ref a2)])) t₀
    refine XS.iand X4.here hx rfl (hb hby d1_85) rfl ?_
    show Steps p.tables e below (T4.setTop (mkF m 86 #[.val (.int cp), .val (.ref a2), .val (.int ov), .val (.int (2 : Int32)), .val (.int (1 : Int32))] [(.int ((cp >>> ((0 : Int32) &&& 31)) &&& (63 : Int32))), (.int (128 : Int32)), (.int (ov + (1 : Int32))), (.ref a2)])) t₀
    refine XS.ior X4.here hx rfl (hb hby d1_86) rfl ?_
    show Steps p.tables e below (T4.setTop (mkF m 87 #[.val (.int cp), .val (.ref a2), .val (.int ov), .val (.int (2 : Int32)), .val (.int (1 : Int32))] [(.int ((128 : Int32) ||| ((cp >>> ((0 : Int32) &&& 31)) &&& (63 : Int32)))), (.int (ov + (1 : Int32))), (.ref a2)])) t₀
    refine XS.i2b X4.here hx rfl (hb hby d1_87) rfl ?_
    exact k₀
  obtain ⟨cl5, Ar5, sz5, Hf5⟩ := OB4
  have ix1 := own_ix (ov := ov) (1 : Int32) 1 rfl (by decide) ho1 ho2
  have hin5 := own_inb (j := (ov + (1 : Int32))) sz5 (by omega) (by omega)
  obtain ⟨T6, h6, X6, e6, W6, st6⟩ := stB X4 hx hZ e4 Ar5 (j := (ov + (1 : Int32))) hin5 (g := (mkF m 88 #[.val (.int cp), .val (.ref a2), .val (.int ov), .val (.int (2 : Int32)), .val (.int (1 : Int32))] [(.int (((128 : Int32) ||| ((cp >>> ((0 : Int32) &&& 31)) &&& (63 : Int32))).toInt8.toInt32)), (.int (ov + (1 : Int32))), (.ref a2)])) rfl rfl (hb hby d1_88)
  refine hG _ _ (fun t₀ k₀ => st6 _ k₀) ?_
  have N6 := Fr.snoc X6 N4 g2
  have o_x6 := o_x4.wr W6 g2
  have k_x6 := k_x4.wr W6 (Or.inl (List.mem_of_getElem? (i := 0) rfl))
  have z_6 : n0 ≤ h6.size := Nat.le_trans z_4 (Keep.of_wr W6).1
  obtain ⟨f6, OB6, at1, rs1⟩ := own_set Ar5 sz5 Hf5 W6
  rw [ix1.1] at at1 rs1
  have at1 : f6 (ov.toNatClampNeg + 1) = (((128 : Int32) ||| ((cp >>> ((0 : Int32) &&& 31)) &&& (63 : Int32))).toInt8.toInt32) := at1.trans (own_i2b _)
  show G (T6.setTop (mkF m 89 #[.val (.int cp), .val (.ref a2), .val (.int ov), .val (.int (2 : Int32)), .val (.int (1 : Int32))] []))
  refine hG _ (T6.setTop (mkF m 96 #[.val (.int cp), .val (.ref a2), .val (.int ov), .val (.int (2 : Int32)), .val (.int (2 : Int32))] [(.int (2 : Int32))])) (fun t₀ k₀ => ?_) ?_
  · show Steps p.tables e below (T6.setTop (mkF m 89 #[.val (.int cp), .val (.ref a2), .val (.int ov), .val (.int (2 : Int32)), .val (.int (1 : Int32))] [])) t₀
    refine XS.iinc X6.here hx rfl (hb hby d1_89) rfl (l' := #[.val (.int cp), .val (.ref a2), .val (.int ov), .val (.int (2 : Int32)), .val (.int (2 : Int32))]) rfl ?_
    show Steps p.tables e below (T6.setTop (mkF m 92 #[.val (.int cp), .val (.ref a2), .val (.int ov), .val (.int (2 : Int32)), .val (.int (2 : Int32))] [])) t₀
    refine XS.goto X6.here hx rfl (pc0 := 92) (pc' := 58) rfl (hb hby d1_92) (by decide) (by decide) ?_
    show Steps p.tables e below (T6.setTop (mkF m 58 #[.val (.int cp), .val (.ref a2), .val (.int ov), .val (.int (2 : Int32)), .val (.int (2 : Int32))] [])) t₀
    refine XS.iload X6.here hx rfl (hb hby d1_58) rfl ?_
    show Steps p.tables e below (T6.setTop (mkF m 60 #[.val (.int cp), .val (.ref a2), .val (.int ov), .val (.int (2 : Int32)), .val (.int (2 : Int32))] [(.int (2 : Int32))])) t₀
    refine XS.iloadN X6.here hx rfl (hb hby d1_60) rfl ?_
    show Steps p.tables e below (T6.setTop (mkF m 61 #[.val (.int cp), .val (.ref a2), .val (.int ov), .val (.int (2 : Int32)), .val (.int (2 : Int32))] [(.int (2 : Int32)), (.int (2 : Int32))])) t₀
    refine XS.icmpYes X6.here hx rfl (pc0 := 61) (pc' := 95) rfl (hb hby d1_61) rfl (flt (by decide : ¬ ((2 : Int32) < (2 : Int32)))).2.1 (by decide) (by decide) ?_
    show Steps p.tables e below (T6.setTop (mkF m 95 #[.val (.int cp), .val (.ref a2), .val (.int ov), .val (.int (2 : Int32)), .val (.int (2 : Int32))] [])) t₀
    refine XS.iloadN X6.here hx rfl (hb hby d1_95) rfl ?_
    exact k₀
  refine hF _ T6 _ _ _ (some (.int (2 : Int32))) _ X6 e6 (fun h => by rw [hrt] at h; cases h) (by decide) (by decide) ?_ (fun fs hr => own_retI X6 hx hrt (hb hby d1_96) hr)
  exact ⟨_, rfl, N6, k_x6, OB6, ((rs1 _ (by omega)).trans (at0)), (at1), fun i hi => (rs1 i (by omega)).trans ((rs0 i (by omega)).trans (rfl))⟩
theorem ef_rmE3 (m : MethodId) (x0 : Int32) (x1 : Addr) (x2 : Int32) : entryFrame m #[(.int x0), (.ref x1), (.int x2)] 5 = mkF m 0 #[.val (.int x0), .val (.ref x1), .val (.int x2), .unset, .unset] [] := by first | (simp [entryFrame, mkF, argsToLocals, Value.category]; done) | rfl
def Q_rmE3 (Z : State) (cp : Int32) (a2 : Addr) (ov fb : Int32) (wL : Addr) (kL : ClassId) (h0 : Heap) (n0 : Nat) (v : Option Value) (h : Heap) (L : List Loc) : Prop := ∃ f, v = some (.int (3 : Int32)) ∧ Fr n0 L ∧ Keep h0 h [a2] ∧ OwnB Z h a2 f ∧ f (ov.toNatClampNeg) = (((224 : Int32) ||| (cp >>> ((12 : Int32) &&& 31))).toInt8.toInt32) ∧ f (ov.toNatClampNeg + 1) = (((128 : Int32) ||| ((cp >>> ((6 : Int32) &&& 31)) &&& (63 : Int32))).toInt8.toInt32) ∧ f (ov.toNatClampNeg + 2) = (((128 : Int32) ||| ((cp >>> ((0 : Int32) &&& 31)) &&& (63 : Int32))).toInt8.toInt32) ∧ ∀ i, i < ov.toNatClampNeg ∨ ov.toNatClampNeg + 3 ≤ i → f i = fb
set_option maxRecDepth 65536 in
set_option maxHeartbeats 40000000 in
theorem rmE3 (l : Launch) (Z : State) (a0 : Array Value) (hw : ∀ d ∈ tables_1, d.before a0 Z = true) (ws : List Jvm.Cond) (cp : Int32) (a2 : Addr) (ov fb : Int32) (wL : Addr) (kL : ClassId) (h0 : Heap) (n0 : Nat) (Z0 : n0 ≤ h0.size) (O0 : Old Z n0 h0) (S_LEAD : Sta Z Z.heap "com/example/opledger/opledger/Utf8" "LEAD_BITS" "[I" (.ref wL)) (VL : Arv Z Z.heap wL kL .int (5 : Int32) [(.int (0 : Int32)), (.int (0 : Int32)), (.int (192 : Int32)), (.int (224 : Int32)), (.int (240 : Int32))] (.int (0 : Int32))) (g2 : n0 ≤ a2) (OB : OwnB Z h0 a2 (fun _ => fb)) (hl : 2048 ≤ cp.toInt) (hu : cp.toInt < 65536) (ho1 : 0 ≤ ov.toInt) (ho2 : ov.toInt ≤ 3) :
    MetFree l (⟨"com/example/opledger/opledger/Utf8", "encode", "(I[BI)I"⟩ : MethodName) (head1 (Jvm.Cond.code (⟨"com/example/opledger/opledger/Utf8", "encode", "(I[BI)I"⟩ : MethodName) prog_87_method_12_code 5 (some .int) :: ws) ({ frames := 0, cells := 0, slots := 0, locals := 0 } : Room)) (fun a U => a = #[(.int cp), (.ref a2), (.int ov)] ∧ Z.Warmed39 U.vm ∧ U.heap = h0) (fun _ _ _ _ _ => True) (fun _ U o U' => ∃ v L, o = .returned v ∧ Q_rmE3 Z cp a2 ov fb wL kL h0 n0 v U'.heap L ∧ FrameEnd U o U' L ({ frames := 0, cells := 0, slots := 0, locals := 0 } : Room).cells ({ frames := 0, cells := 0, slots := 0, locals := 0 } : Room).slots) := by
  refine own_body (Q := fun v h L => Q_rmE3 Z cp a2 ov fb wL kL h0 n0 v h L) pn_1 ?_
  intro p e s m below meth c s₁ G X0 hx hZ hby hml hown hnm hrt e0 hG hF
  have hown : s.vm.findClass "com/example/opledger/opledger/Utf8" = some m.cls := hown
  have N0 := Fr.nil n0
  rw [ef_rmE3 m cp a2 ov]
  show G (s₁.setTop (mkF m 0 #[.val (.int cp), .val (.ref a2), .val (.int ov), .unset, .unset] []))
  refine hG _ (s₁.setTop (mkF m 39 #[.val (.int cp), .val (.ref a2), .val (.int ov), .val (.int (3 : Int32)), .unset] [(.int ov), (.ref a2)])) (fun t₀ k₀ => ?_) ?_
  · show Steps p.tables e below (s₁.setTop (mkF m 0 #[.val (.int cp), .val (.ref a2), .val (.int ov), .unset, .unset] [])) t₀
    refine XS.iloadN X0.here hx rfl (hb hby d1_0) rfl ?_
    show Steps p.tables e below (s₁.setTop (mkF m 1 #[.val (.int cp), .val (.ref a2), .val (.int ov), .unset, .unset] [(.int cp)])) t₀
    refine XS.sipush X0.here hx rfl (hb hby d1_1) ?_
    show Steps p.tables e below (s₁.setTop (mkF m 4 #[.val (.int cp), .val (.ref a2), .val (.int ov), .unset, .unset] [(.int (128 : Int32)), (.int cp)])) t₀
    refine XS.icmpYes X0.here hx rfl (pc0 := 4) (pc' := 12) rfl (hb hby d1_4) rfl (flt (own_ge (k := (128 : Int32)) (Int.le_trans (by decide) hl))).2.1 (by decide) (by decide) ?_
    show Steps p.tables e below (s₁.setTop (mkF m 12 #[.val (.int cp), .val (.ref a2), .val (.int ov), .unset, .unset] [])) t₀
    refine XS.iloadN X0.here hx rfl (hb hby d1_12) rfl ?_
    show Steps p.tables e below (s₁.setTop (mkF m 13 #[.val (.int cp), .val (.ref a2), .val (.int ov), .unset, .unset] [(.int cp)])) t₀
    refine XS.sipush X0.here hx rfl (hb hby d1_13) ?_
    show Steps p.tables e below (s₁.setTop (mkF m 16 #[.val (.int cp), .val (.ref a2), .val (.int ov), .unset, .unset] [(.int (2048 : Int32)), (.int cp)])) t₀
    refine XS.icmpYes X0.here hx rfl (pc0 := 16) (pc' := 24) rfl (hb hby d1_16) rfl (flt (own_ge (k := (2048 : Int32)) (Int.le_trans (by decide) hl))).2.1 (by decide) (by decide) ?_
    show Steps p.tables e below (s₁.setTop (mkF m 24 #[.val (.int cp), .val (.ref a2), .val (.int ov), .unset, .unset] [])) t₀
    refine XS.iloadN X0.here hx rfl (hb hby d1_24) rfl ?_
    show Steps p.tables e below (s₁.setTop (mkF m 25 #[.val (.int cp), .val (.ref a2), .val (.int ov), .unset, .unset] [(.int cp)])) t₀
    refine X0.ldcInt hx hown (mvT hZ (hw _ (List.mem_of_getElem? (i := 14) rfl))) (g := (mkF m 25 #[.val (.int cp), .val (.ref a2), .val (.int ov), .unset, .unset] [(.int cp)])) rfl (hb hby d1_25) _ ?_
    show Steps p.tables e below (s₁.setTop (mkF m 27 #[.val (.int cp), .val (.ref a2), .val (.int ov), .unset, .unset] [(.int (65536 : Int32)), (.int cp)])) t₀
    refine XS.icmpNo X0.here hx rfl (hb hby d1_27) rfl (tlt (own_lt (k := (65536 : Int32)) (Int.lt_of_lt_of_le hu (by decide)))).2.1 ?_
    show Steps p.tables e below (s₁.setTop (mkF m 30 #[.val (.int cp), .val (.ref a2), .val (.int ov), .unset, .unset] [])) t₀
    refine XS.iconst X0.here hx rfl (hb hby d1_30) ?_
    show Steps p.tables e below (s₁.setTop (mkF m 31 #[.val (.int cp), .val (.ref a2), .val (.int ov), .unset, .unset] [(.int (3 : Int32))])) t₀
    refine XS.istoreN X0.here hx rfl (hb hby d1_31) rfl (l' := #[.val (.int cp), .val (.ref a2), .val (.int ov), .val (.int (3 : Int32)), .unset]) rfl ?_
    show Steps p.tables e below (s₁.setTop (mkF m 32 #[.val (.int cp), .val (.ref a2), .val (.int ov), .val (.int (3 : Int32)), .unset] [])) t₀
    refine XS.goto X0.here hx rfl (pc0 := 32) (pc' := 37) rfl (hb hby d1_32) (by decide) (by decide) ?_
    show Steps p.tables e below (s₁.setTop (mkF m 37 #[.val (.int cp), .val (.ref a2), .val (.int ov), .val (.int (3 : Int32)), .unset] [])) t₀
    refine XS.aloadN X0.here hx rfl (hb hby d1_37) rfl rfl ?_
    show Steps p.tables e below (s₁.setTop (mkF m 38 #[.val (.int cp), .val (.ref a2), .val (.int ov), .val (.int (3 : Int32)), .unset] [(.ref a2)])) t₀
    refine XS.iloadN X0.here hx rfl (hb hby d1_38) rfl ?_
    exact k₀
  obtain ⟨T1, X1, e1, st1⟩ := getS2 X0 hx hZ hown (host := "") (Or.inl (hw _ (List.mem_of_getElem? (i := 6) rfl))) Via.refl e0 (S_LEAD.ext O0.2) (g := (mkF m 39 #[.val (.int cp), .val (.ref a2), .val (.int ov), .val (.int (3 : Int32)), .unset] [(.int ov), (.ref a2)])) rfl (hb hby d1_39)
  refine hG _ _ (fun t₀ k₀ => st1 _ k₀) ?_
  show G (T1.setTop (mkF m 42 #[.val (.int cp), .val (.ref a2), .val (.int ov), .val (.int (3 : Int32)), .unset] [(.ref wL), (.int ov), (.ref a2)]))
  refine hG _ (T1.setTop (mkF m 43 #[.val (.int cp), .val (.ref a2), .val (.int ov), .val (.int (3 : Int32)), .unset] [(.int (3 : Int32)), (.ref wL), (.int ov), (.ref a2)])) (fun t₀ k₀ => ?_) ?_
  · show Steps p.tables e below (T1.setTop (mkF m 42 #[.val (.int cp), .val (.ref a2), .val (.int ov), .val (.int (3 : Int32)), .unset] [(.ref wL), (.int ov), (.ref a2)])) t₀
    refine XS.iloadN X1.here hx rfl (hb hby d1_42) rfl ?_
    exact k₀
  have ov2 := (VL.ext O0.2)
  obtain ⟨cl2, Ar2, q2, S2, N_2, H_2, G_2⟩ := ov2
  have hin2 : ¬ ((3 : Int32) < 0 ∨ cl2.slots.size ≤ ((3 : Int32)).toNatClampNeg) := inb_of S2 ⟨by decide, by decide⟩
  have hat2 : cl2.slots[((3 : Int32)).toNatClampNeg]? = some (.int (224 : Int32)) := H_2.at hin2 rfl
  refine hG _ (T1.setTop (mkF m 54 #[.val (.int cp), .val (.ref a2), .val (.int ov), .val (.int (3 : Int32)), .unset] [(.int (((224 : Int32) ||| (cp >>> ((12 : Int32) &&& 31))).toInt8.toInt32)), (.int ov), (.ref a2)])) (fun t₀ k₀ => ?_) ?_
  · show Steps p.tables e below (T1.setTop (mkF m 43 #[.val (.int cp), .val (.ref a2), .val (.int ov), .val (.int (3 : Int32)), .unset] [(.int (3 : Int32)), (.ref wL), (.int ov), (.ref a2)])) t₀
    refine X1.iaload hx (j := (3 : Int32)) (v := (.int (224 : Int32))) (by rw [e1]; exact Ar2.1) (State.isArrayOf_alike hZ.alike Ar2.2.1) Ar2.2.2 hin2 hat2 (g := (mkF m 43 #[.val (.int cp), .val (.ref a2), .val (.int ov), .val (.int (3 : Int32)), .unset] [(.int (3 : Int32)), (.ref wL), (.int ov), (.ref a2)])) rfl rfl (hb hby d1_43) _ ?_
    show Steps p.tables e below (T1.setTop (mkF m 44 #[.val (.int cp), .val (.ref a2), .val (.int ov), .val (.int (3 : Int32)), .unset] [(.int (224 : Int32)), (.int ov), (.ref a2)])) t₀
    refine XS.iloadN X1.here hx rfl (hb hby d1_44) rfl ?_
    show Steps p.tables e below (T1.setTop (mkF m 45 #[.val (.int cp), .val (.ref a2), .val (.int ov), .val (.int (3 : Int32)), .unset] [(.int cp), (.int (224 : Int32)), (.int ov), (.ref a2)])) t₀
    refine XS.bipush X1.here hx rfl (hb hby d1_45) ?_
    show Steps p.tables e below (T1.setTop (mkF m 47 #[.val (.int cp), .val (.ref a2), .val (.int ov), .val (.int (3 : Int32)), .unset] [(.int (6 : Int32)), (.int cp), (.int (224 : Int32)), (.int ov), (.ref a2)])) t₀
    refine XS.iloadN X1.here hx rfl (hb hby d1_47) rfl ?_
    show Steps p.tables e below (T1.setTop (mkF m 48 #[.val (.int cp), .val (.ref a2), .val (.int ov), .val (.int (3 : Int32)), .unset] [(.int (3 : Int32)), (.int (6 : Int32)), (.int cp), (.int (224 : Int32)), (.int ov), (.ref a2)])) t₀
    refine XS.iconst X1.here hx rfl (hb hby d1_48) ?_
    show Steps p.tables e below (T1.setTop (mkF m 49 #[.val (.int cp), .val (.ref a2), .val (.int ov), .val (.int (3 : Int32)), .unset] [(.int (1 : Int32)), (.int (3 : Int32)), (.int (6 : Int32)), (.int cp), (.int (224 : Int32)), (.int ov), (.ref a2)])) t₀
    refine XS.isub X1.here hx rfl (hb hby d1_49) rfl ?_
    show Steps p.tables e below (T1.setTop (mkF m 50 #[.val (.int cp), .val (.ref a2), .val (.int ov), .val (.int (3 : Int32)), .unset] [(.int (2 : Int32)), (.int (6 : Int32)), (.int cp), (.int (224 : Int32)), (.int ov), (.ref a2)])) t₀
    refine XS.imul X1.here hx rfl (hb hby d1_50) rfl ?_
    show Steps p.tables e below (T1.setTop (mkF m 51 #[.val (.int cp), .val (.ref a2), .val (.int ov), .val (.int (3 : Int32)), .unset] [(.int (12 : Int32)), (.int cp), (.int (224 : Int32)), (.int ov), (.ref a2)])) t₀
    refine XS.ishr X1.here hx rfl (hb hby d1_51) rfl ?_
    show Steps p.tables e below (T1.setTop (mkF m 52 #[.val (.int cp), .val (.ref a2), .val (.int ov), .val (.int (3 : Int32)), .unset] [(.int (cp >>> ((12 : Int32) &&& 31))), (.int (224 : Int32)), (.int ov), (.ref a2)])) t₀
    refine XS.ior X1.here hx rfl (hb hby d1_52) rfl ?_
    show Steps p.tables e below (T1.setTop (mkF m 53 #[.val (.int cp), .val (.ref a2), .val (.int ov), .val (.int (3 : Int32)), .unset] [(.int ((224 : Int32) ||| (cp >>> ((12 : Int32) &&& 31)))), (.int ov), (.ref a2)])) t₀
    refine XS.i2b X1.here hx rfl (hb hby d1_53) rfl ?_
    exact k₀
  obtain ⟨cl3, Ar3, sz3, Hf3⟩ := OB
  have hin3 := own_inb (j := ov) sz3 (by omega) (by omega)
  obtain ⟨T4, h4, X4, e4, W4, st4⟩ := stB X1 hx hZ e1 Ar3 (j := ov) hin3 (g := (mkF m 54 #[.val (.int cp), .val (.ref a2), .val (.int ov), .val (.int (3 : Int32)), .unset] [(.int (((224 : Int32) ||| (cp >>> ((12 : Int32) &&& 31))).toInt8.toInt32)), (.int ov), (.ref a2)])) rfl rfl (hb hby d1_54)
  refine hG _ _ (fun t₀ k₀ => st4 _ k₀) ?_
  have N4 := Fr.snoc X4 N0 g2
  have o_x4 := O0.wr W4 g2
  have k_x4 := (Keep.refl h0 [a2]).wr W4 (Or.inl (List.mem_of_getElem? (i := 0) rfl))
  have z_4 : n0 ≤ h4.size := Nat.le_trans Z0 (Keep.of_wr W4).1
  obtain ⟨f4, OB4, at0, rs0⟩ := own_set Ar3 sz3 Hf3 W4
  have at0 : f4 (ov.toNatClampNeg) = (((224 : Int32) ||| (cp >>> ((12 : Int32) &&& 31))).toInt8.toInt32) := at0.trans (own_i2b _)
  show G (T4.setTop (mkF m 55 #[.val (.int cp), .val (.ref a2), .val (.int ov), .val (.int (3 : Int32)), .unset] []))
  refine hG _ (T4.setTop (mkF m 88 #[.val (.int cp), .val (.ref a2), .val (.int ov), .val (.int (3 : Int32)), .val (.int (1 : Int32))] [(.int (((128 : Int32) ||| ((cp >>> ((6 : Int32) &&& 31)) &&& (63 : Int32))).toInt8.toInt32)), (.int (ov + (1 : Int32))), (.ref a2)])) (fun t₀ k₀ => ?_) ?_
  · show Steps p.tables e below (T4.setTop (mkF m 55 #[.val (.int cp), .val (.ref a2), .val (.int ov), .val (.int (3 : Int32)), .unset] [])) t₀
    refine XS.iconst X4.here hx rfl (hb hby d1_55) ?_
    show Steps p.tables e below (T4.setTop (mkF m 56 #[.val (.int cp), .val (.ref a2), .val (.int ov), .val (.int (3 : Int32)), .unset] [(.int (1 : Int32))])) t₀
    refine XS.istore X4.here hx rfl (hb hby d1_56) rfl (l' := #[.val (.int cp), .val (.ref a2), .val (.int ov), .val (.int (3 : Int32)), .val (.int (1 : Int32))]) rfl ?_
    show Steps p.tables e below (T4.setTop (mkF m 58 #[.val (.int cp), .val (.ref a2), .val (.int ov), .val (.int (3 : Int32)), .val (.int (1 : Int32))] [])) t₀
    refine XS.iload X4.here hx rfl (hb hby d1_58) rfl ?_
    show Steps p.tables e below (T4.setTop (mkF m 60 #[.val (.int cp), .val (.ref a2), .val (.int ov), .val (.int (3 : Int32)), .val (.int (1 : Int32))] [(.int (1 : Int32))])) t₀
    refine XS.iloadN X4.here hx rfl (hb hby d1_60) rfl ?_
    show Steps p.tables e below (T4.setTop (mkF m 61 #[.val (.int cp), .val (.ref a2), .val (.int ov), .val (.int (3 : Int32)), .val (.int (1 : Int32))] [(.int (3 : Int32)), (.int (1 : Int32))])) t₀
    refine XS.icmpNo X4.here hx rfl (hb hby d1_61) rfl (tlt (by decide : ((1 : Int32) < (3 : Int32)))).2.1 ?_
    show Steps p.tables e below (T4.setTop (mkF m 64 #[.val (.int cp), .val (.ref a2), .val (.int ov), .val (.int (3 : Int32)), .val (.int (1 : Int32))] [])) t₀
    refine XS.aloadN X4.here hx rfl (hb hby d1_64) rfl rfl ?_
    show Steps p.tables e below (T4.setTop (mkF m 65 #[.val (.int cp), .val (.ref a2), .val (.int ov), .val (.int (3 : Int32)), .val (.int (1 : Int32))] [(.ref a2)])) t₀
    refine XS.iloadN X4.here hx rfl (hb hby d1_65) rfl ?_
    show Steps p.tables e below (T4.setTop (mkF m 66 #[.val (.int cp), .val (.ref a2), .val (.int ov), .val (.int (3 : Int32)), .val (.int (1 : Int32))] [(.int ov), (.ref a2)])) t₀
    refine XS.iload X4.here hx rfl (hb hby d1_66) rfl ?_
    show Steps p.tables e below (T4.setTop (mkF m 68 #[.val (.int cp), .val (.ref a2), .val (.int ov), .val (.int (3 : Int32)), .val (.int (1 : Int32))] [(.int (1 : Int32)), (.int ov), (.ref a2)])) t₀
    refine XS.iadd X4.here hx rfl (hb hby d1_68) rfl ?_
    show Steps p.tables e below (T4.setTop (mkF m 69 #[.val (.int cp), .val (.ref a2), .val (.int ov), .val (.int (3 : Int32)), .val (.int (1 : Int32))] [(.int (ov + (1 : Int32))), (.ref a2)])) t₀
    refine XS.sipush X4.here hx rfl (hb hby d1_69) ?_
    show Steps p.tables e below (T4.setTop (mkF m 72 #[.val (.int cp), .val (.ref a2), .val (.int ov), .val (.int (3 : Int32)), .val (.int (1 : Int32))] [(.int (128 : Int32)), (.int (ov + (1 : Int32))), (.ref a2)])) t₀
    refine XS.iloadN X4.here hx rfl (hb hby d1_72) rfl ?_
    show Steps p.tables e below (T4.setTop (mkF m 73 #[.val (.int cp), .val (.ref a2), .val (.int ov), .val (.int (3 : Int32)), .val (.int (1 : Int32))] [(.int cp), (.int (128 : Int32)), (.int (ov + (1 : Int32))), (.ref a2)])) t₀
    refine XS.bipush X4.here hx rfl (hb hby d1_73) ?_
    show Steps p.tables e below (T4.setTop (mkF m 75 #[.val (.int cp), .val (.ref a2), .val (.int ov), .val (.int (3 : Int32)), .val (.int (1 : Int32))] [(.int (6 : Int32)), (.int cp), (.int (128 : Int32)), (.int (ov + (1 : Int32))), (.ref a2)])) t₀
    refine XS.iloadN X4.here hx rfl (hb hby d1_75) rfl ?_
    show Steps p.tables e below (T4.setTop (mkF m 76 #[.val (.int cp), .val (.ref a2), .val (.int ov), .val (.int (3 : Int32)), .val (.int (1 : Int32))] [(.int (3 : Int32)), (.int (6 : Int32)), (.int cp), (.int (128 : Int32)), (.int (ov + (1 : Int32))), (.ref a2)])) t₀
    refine XS.iconst X4.here hx rfl (hb hby d1_76) ?_
    show Steps p.tables e below (T4.setTop (mkF m 77 #[.val (.int cp), .val (.ref a2), .val (.int ov), .val (.int (3 : Int32)), .val (.int (1 : Int32))] [(.int (1 : Int32)), (.int (3 : Int32)), (.int (6 : Int32)), (.int cp), (.int (128 : Int32)), (.int (ov + (1 : Int32))), (.ref a2)])) t₀
    refine XS.isub X4.here hx rfl (hb hby d1_77) rfl ?_
    show Steps p.tables e below (T4.setTop (mkF m 78 #[.val (.int cp), .val (.ref a2), .val (.int ov), .val (.int (3 : Int32)), .val (.int (1 : Int32))] [(.int (2 : Int32)), (.int (6 : Int32)), (.int cp), (.int (128 : Int32)), (.int (ov + (1 : Int32))), (.ref a2)])) t₀
    refine XS.iload X4.here hx rfl (hb hby d1_78) rfl ?_
    show Steps p.tables e below (T4.setTop (mkF m 80 #[.val (.int cp), .val (.ref a2), .val (.int ov), .val (.int (3 : Int32)), .val (.int (1 : Int32))] [(.int (1 : Int32)), (.int (2 : Int32)), (.int (6 : Int32)), (.int cp), (.int (128 : Int32)), (.int (ov + (1 : Int32))), (.ref a2)])) t₀
    refine XS.isub X4.here hx rfl (hb hby d1_80) rfl ?_
    show Steps p.tables e below (T4.setTop (mkF m 81 #[.val (.int cp), .val (.ref a2), .val (.int ov), .val (.int (3 : Int32)), .val (.int (1 : Int32))] [(.int (1 : Int32)), (.int (6 : Int32)), (.int cp), (.int (128 : Int32)), (.int (ov + (1 : Int32))), (.ref a2)])) t₀
    refine XS.imul X4.here hx rfl (hb hby d1_81) rfl ?_
    show Steps p.tables e below (T4.setTop (mkF m 82 #[.val (.int cp), .val (.ref a2), .val (.int ov), .val (.int (3 : Int32)), .val (.int (1 : Int32))] [(.int (6 : Int32)), (.int cp), (.int (128 : Int32)), (.int (ov + (1 : Int32))), (.ref a2)])) t₀
    refine XS.ishr X4.here hx rfl (hb hby d1_82) rfl ?_
    show Steps p.tables e below (T4.setTop (mkF m 83 #[.val (.int cp), .val (.ref a2), .val (.int ov), .val (.int (3 : Int32)), .val (.int (1 : Int32))] [(.int (cp >>> ((6 : Int32) &&& 31))), (.int (128 : Int32)), (.int (ov + (1 : Int32))), (.ref a2)])) t₀
    refine XS.bipush X4.here hx rfl (hb hby d1_83) ?_
    show Steps p.tables e below (T4.setTop (mkF m 85 #[.val (.int cp), .val (.ref a2), .val (.int ov), .val (.int (3 : Int32)), .val (.int (1 : Int32))] [(.int (63 : Int32)), (.int (cp >>> ((6 : Int32) &&& 31))), (.int (128 : Int32)), (.int (ov + (1 : Int32))), (.ref a2)])) t₀
    refine XS.iand X4.here hx rfl (hb hby d1_85) rfl ?_
    show Steps p.tables e below (T4.setTop (mkF m 86 #[.val (.int cp), .val (.ref a2), .val (.int ov), .val (.int (3 : Int32)), .val (.int (1 : Int32))] [(.int ((cp >>> ((6 : Int32) &&& 31)) &&& (63 : Int32))), (.int (128 : Int32)), (.int (ov + (1 : Int32))), (.ref a2)])) t₀
    refine XS.ior X4.here hx rfl (hb hby d1_86) rfl ?_
    show Steps p.tables e below (T4.setTop (mkF m 87 #[.val (.int cp), .val (.ref a2), .val (.int ov), .val (.int (3 : Int32)), .val (.int (1 : Int32))] [(.int ((128 : Int32) ||| ((cp >>> ((6 : Int32) &&& 31)) &&& (63 : Int32)))), (.int (ov + (1 : Int32))), (.ref a2)])) t₀
    refine XS.i2b X4.here hx rfl (hb hby d1_87) rfl ?_
    exact k₀
  obtain ⟨cl5, Ar5, sz5, Hf5⟩ := OB4
  have ix1 := own_ix (ov := ov) (1 : Int32) 1 rfl (by decide) ho1 ho2
  have hin5 := own_inb (j := (ov + (1 : Int32))) sz5 (by omega) (by omega)
  obtain ⟨T6, h6, X6, e6, W6, st6⟩ := stB X4 hx hZ e4 Ar5 (j := (ov + (1 : Int32))) hin5 (g := (mkF m 88 #[.val (.int cp), .val (.ref a2), .val (.int ov), .val (.int (3 : Int32)), .val (.int (1 : Int32))] [(.int (((128 : Int32) ||| ((cp >>> ((6 : Int32) &&& 31)) &&& (63 : Int32))).toInt8.toInt32)), (.int (ov + (1 : Int32))), (.ref a2)])) rfl rfl (hb hby d1_88)
  refine hG _ _ (fun t₀ k₀ => st6 _ k₀) ?_
  have N6 := Fr.snoc X6 N4 g2
  have o_x6 := o_x4.wr W6 g2
  have k_x6 := k_x4.wr W6 (Or.inl (List.mem_of_getElem? (i := 0) rfl))
  have z_6 : n0 ≤ h6.size := Nat.le_trans z_4 (Keep.of_wr W6).1
  obtain ⟨f6, OB6, at1, rs1⟩ := own_set Ar5 sz5 Hf5 W6
  rw [ix1.1] at at1 rs1
  have at1 : f6 (ov.toNatClampNeg + 1) = (((128 : Int32) ||| ((cp >>> ((6 : Int32) &&& 31)) &&& (63 : Int32))).toInt8.toInt32) := at1.trans (own_i2b _)
  show G (T6.setTop (mkF m 89 #[.val (.int cp), .val (.ref a2), .val (.int ov), .val (.int (3 : Int32)), .val (.int (1 : Int32))] []))
  refine hG _ (T6.setTop (mkF m 88 #[.val (.int cp), .val (.ref a2), .val (.int ov), .val (.int (3 : Int32)), .val (.int (2 : Int32))] [(.int (((128 : Int32) ||| ((cp >>> ((0 : Int32) &&& 31)) &&& (63 : Int32))).toInt8.toInt32)), (.int (ov + (2 : Int32))), (.ref a2)])) (fun t₀ k₀ => ?_) ?_
  · show Steps p.tables e below (T6.setTop (mkF m 89 #[.val (.int cp), .val (.ref a2), .val (.int ov), .val (.int (3 : Int32)), .val (.int (1 : Int32))] [])) t₀
    refine XS.iinc X6.here hx rfl (hb hby d1_89) rfl (l' := #[.val (.int cp), .val (.ref a2), .val (.int ov), .val (.int (3 : Int32)), .val (.int (2 : Int32))]) rfl ?_
    show Steps p.tables e below (T6.setTop (mkF m 92 #[.val (.int cp), .val (.ref a2), .val (.int ov), .val (.int (3 : Int32)), .val (.int (2 : Int32))] [])) t₀
    refine XS.goto X6.here hx rfl (pc0 := 92) (pc' := 58) rfl (hb hby d1_92) (by decide) (by decide) ?_
    show Steps p.tables e below (T6.setTop (mkF m 58 #[.val (.int cp), .val (.ref a2), .val (.int ov), .val (.int (3 : Int32)), .val (.int (2 : Int32))] [])) t₀
    refine XS.iload X6.here hx rfl (hb hby d1_58) rfl ?_
    show Steps p.tables e below (T6.setTop (mkF m 60 #[.val (.int cp), .val (.ref a2), .val (.int ov), .val (.int (3 : Int32)), .val (.int (2 : Int32))] [(.int (2 : Int32))])) t₀
    refine XS.iloadN X6.here hx rfl (hb hby d1_60) rfl ?_
    show Steps p.tables e below (T6.setTop (mkF m 61 #[.val (.int cp), .val (.ref a2), .val (.int ov), .val (.int (3 : Int32)), .val (.int (2 : Int32))] [(.int (3 : Int32)), (.int (2 : Int32))])) t₀
    refine XS.icmpNo X6.here hx rfl (hb hby d1_61) rfl (tlt (by decide : ((2 : Int32) < (3 : Int32)))).2.1 ?_
    show Steps p.tables e below (T6.setTop (mkF m 64 #[.val (.int cp), .val (.ref a2), .val (.int ov), .val (.int (3 : Int32)), .val (.int (2 : Int32))] [])) t₀
    refine XS.aloadN X6.here hx rfl (hb hby d1_64) rfl rfl ?_
    show Steps p.tables e below (T6.setTop (mkF m 65 #[.val (.int cp), .val (.ref a2), .val (.int ov), .val (.int (3 : Int32)), .val (.int (2 : Int32))] [(.ref a2)])) t₀
    refine XS.iloadN X6.here hx rfl (hb hby d1_65) rfl ?_
    show Steps p.tables e below (T6.setTop (mkF m 66 #[.val (.int cp), .val (.ref a2), .val (.int ov), .val (.int (3 : Int32)), .val (.int (2 : Int32))] [(.int ov), (.ref a2)])) t₀
    refine XS.iload X6.here hx rfl (hb hby d1_66) rfl ?_
    show Steps p.tables e below (T6.setTop (mkF m 68 #[.val (.int cp), .val (.ref a2), .val (.int ov), .val (.int (3 : Int32)), .val (.int (2 : Int32))] [(.int (2 : Int32)), (.int ov), (.ref a2)])) t₀
    refine XS.iadd X6.here hx rfl (hb hby d1_68) rfl ?_
    show Steps p.tables e below (T6.setTop (mkF m 69 #[.val (.int cp), .val (.ref a2), .val (.int ov), .val (.int (3 : Int32)), .val (.int (2 : Int32))] [(.int (ov + (2 : Int32))), (.ref a2)])) t₀
    refine XS.sipush X6.here hx rfl (hb hby d1_69) ?_
    show Steps p.tables e below (T6.setTop (mkF m 72 #[.val (.int cp), .val (.ref a2), .val (.int ov), .val (.int (3 : Int32)), .val (.int (2 : Int32))] [(.int (128 : Int32)), (.int (ov + (2 : Int32))), (.ref a2)])) t₀
    refine XS.iloadN X6.here hx rfl (hb hby d1_72) rfl ?_
    show Steps p.tables e below (T6.setTop (mkF m 73 #[.val (.int cp), .val (.ref a2), .val (.int ov), .val (.int (3 : Int32)), .val (.int (2 : Int32))] [(.int cp), (.int (128 : Int32)), (.int (ov + (2 : Int32))), (.ref a2)])) t₀
    refine XS.bipush X6.here hx rfl (hb hby d1_73) ?_
    show Steps p.tables e below (T6.setTop (mkF m 75 #[.val (.int cp), .val (.ref a2), .val (.int ov), .val (.int (3 : Int32)), .val (.int (2 : Int32))] [(.int (6 : Int32)), (.int cp), (.int (128 : Int32)), (.int (ov + (2 : Int32))), (.ref a2)])) t₀
    refine XS.iloadN X6.here hx rfl (hb hby d1_75) rfl ?_
    show Steps p.tables e below (T6.setTop (mkF m 76 #[.val (.int cp), .val (.ref a2), .val (.int ov), .val (.int (3 : Int32)), .val (.int (2 : Int32))] [(.int (3 : Int32)), (.int (6 : Int32)), (.int cp), (.int (128 : Int32)), (.int (ov + (2 : Int32))), (.ref a2)])) t₀
    refine XS.iconst X6.here hx rfl (hb hby d1_76) ?_
    show Steps p.tables e below (T6.setTop (mkF m 77 #[.val (.int cp), .val (.ref a2), .val (.int ov), .val (.int (3 : Int32)), .val (.int (2 : Int32))] [(.int (1 : Int32)), (.int (3 : Int32)), (.int (6 : Int32)), (.int cp), (.int (128 : Int32)), (.int (ov + (2 : Int32))), (.ref a2)])) t₀
    refine XS.isub X6.here hx rfl (hb hby d1_77) rfl ?_
    show Steps p.tables e below (T6.setTop (mkF m 78 #[.val (.int cp), .val (.ref a2), .val (.int ov), .val (.int (3 : Int32)), .val (.int (2 : Int32))] [(.int (2 : Int32)), (.int (6 : Int32)), (.int cp), (.int (128 : Int32)), (.int (ov + (2 : Int32))), (.ref a2)])) t₀
    refine XS.iload X6.here hx rfl (hb hby d1_78) rfl ?_
    show Steps p.tables e below (T6.setTop (mkF m 80 #[.val (.int cp), .val (.ref a2), .val (.int ov), .val (.int (3 : Int32)), .val (.int (2 : Int32))] [(.int (2 : Int32)), (.int (2 : Int32)), (.int (6 : Int32)), (.int cp), (.int (128 : Int32)), (.int (ov + (2 : Int32))), (.ref a2)])) t₀
    refine XS.isub X6.here hx rfl (hb hby d1_80) rfl ?_
    show Steps p.tables e below (T6.setTop (mkF m 81 #[.val (.int cp), .val (.ref a2), .val (.int ov), .val (.int (3 : Int32)), .val (.int (2 : Int32))] [(.int (0 : Int32)), (.int (6 : Int32)), (.int cp), (.int (128 : Int32)), (.int (ov + (2 : Int32))), (.ref a2)])) t₀
    refine XS.imul X6.here hx rfl (hb hby d1_81) rfl ?_
    show Steps p.tables e below (T6.setTop (mkF m 82 #[.val (.int cp), .val (.ref a2), .val (.int ov), .val (.int (3 : Int32)), .val (.int (2 : Int32))] [(.int (0 : Int32)), (.int cp), (.int (128 : Int32)), (.int (ov + (2 : Int32))), (.ref a2)])) t₀
    refine XS.ishr X6.here hx rfl (hb hby d1_82) rfl ?_
    show Steps p.tables e below (T6.setTop (mkF m 83 #[.val (.int cp), .val (.ref a2), .val (.int ov), .val (.int (3 : Int32)), .val (.int (2 : Int32))] [(.int (cp >>> ((0 : Int32) &&& 31))), (.int (128 : Int32)), (.int (ov + (2 : Int32))), (.ref a2)])) t₀
    refine XS.bipush X6.here hx rfl (hb hby d1_83) ?_
    show Steps p.tables e below (T6.setTop (mkF m 85 #[.val (.int cp), .val (.ref a2), .val (.int ov), .val (.int (3 : Int32)), .val (.int (2 : Int32))] [(.int (63 : Int32)), (.int (cp >>> ((0 : Int32) &&& 31))), (.int (128 : Int32)), (.int (ov + (2 : Int32))), (.ref a2)])) t₀
    refine XS.iand X6.here hx rfl (hb hby d1_85) rfl ?_
    show Steps p.tables e below (T6.setTop (mkF m 86 #[.val (.int cp), .val (.ref a2), .val (.int ov), .val (.int (3 : Int32)), .val (.int (2 : Int32))] [(.int ((cp >>> ((0 : Int32) &&& 31)) &&& (63 : Int32))), (.int (128 : Int32)), (.int (ov + (2 : Int32))), (.ref a2)])) t₀
    refine XS.ior X6.here hx rfl (hb hby d1_86) rfl ?_
    show Steps p.tables e below (T6.setTop (mkF m 87 #[.val (.int cp), .val (.ref a2), .val (.int ov), .val (.int (3 : Int32)), .val (.int (2 : Int32))] [(.int ((128 : Int32) ||| ((cp >>> ((0 : Int32) &&& 31)) &&& (63 : Int32)))), (.int (ov + (2 : Int32))), (.ref a2)])) t₀
    refine XS.i2b X6.here hx rfl (hb hby d1_87) rfl ?_
    exact k₀
  obtain ⟨cl7, Ar7, sz7, Hf7⟩ := OB6
  have ix2 := own_ix (ov := ov) (2 : Int32) 2 rfl (by decide) ho1 ho2
  have hin7 := own_inb (j := (ov + (2 : Int32))) sz7 (by omega) (by omega)
  obtain ⟨T8, h8, X8, e8, W8, st8⟩ := stB X6 hx hZ e6 Ar7 (j := (ov + (2 : Int32))) hin7 (g := (mkF m 88 #[.val (.int cp), .val (.ref a2), .val (.int ov), .val (.int (3 : Int32)), .val (.int (2 : Int32))] [(.int (((128 : Int32) ||| ((cp >>> ((0 : Int32) &&& 31)) &&& (63 : Int32))).toInt8.toInt32)), (.int (ov + (2 : Int32))), (.ref a2)])) rfl rfl (hb hby d1_88)
  refine hG _ _ (fun t₀ k₀ => st8 _ k₀) ?_
  have N8 := Fr.snoc X8 N6 g2
  have o_x8 := o_x6.wr W8 g2
  have k_x8 := k_x6.wr W8 (Or.inl (List.mem_of_getElem? (i := 0) rfl))
  have z_8 : n0 ≤ h8.size := Nat.le_trans z_6 (Keep.of_wr W8).1
  obtain ⟨f8, OB8, at2, rs2⟩ := own_set Ar7 sz7 Hf7 W8
  rw [ix2.1] at at2 rs2
  have at2 : f8 (ov.toNatClampNeg + 2) = (((128 : Int32) ||| ((cp >>> ((0 : Int32) &&& 31)) &&& (63 : Int32))).toInt8.toInt32) := at2.trans (own_i2b _)
  show G (T8.setTop (mkF m 89 #[.val (.int cp), .val (.ref a2), .val (.int ov), .val (.int (3 : Int32)), .val (.int (2 : Int32))] []))
  refine hG _ (T8.setTop (mkF m 96 #[.val (.int cp), .val (.ref a2), .val (.int ov), .val (.int (3 : Int32)), .val (.int (3 : Int32))] [(.int (3 : Int32))])) (fun t₀ k₀ => ?_) ?_
  · show Steps p.tables e below (T8.setTop (mkF m 89 #[.val (.int cp), .val (.ref a2), .val (.int ov), .val (.int (3 : Int32)), .val (.int (2 : Int32))] [])) t₀
    refine XS.iinc X8.here hx rfl (hb hby d1_89) rfl (l' := #[.val (.int cp), .val (.ref a2), .val (.int ov), .val (.int (3 : Int32)), .val (.int (3 : Int32))]) rfl ?_
    show Steps p.tables e below (T8.setTop (mkF m 92 #[.val (.int cp), .val (.ref a2), .val (.int ov), .val (.int (3 : Int32)), .val (.int (3 : Int32))] [])) t₀
    refine XS.goto X8.here hx rfl (pc0 := 92) (pc' := 58) rfl (hb hby d1_92) (by decide) (by decide) ?_
    show Steps p.tables e below (T8.setTop (mkF m 58 #[.val (.int cp), .val (.ref a2), .val (.int ov), .val (.int (3 : Int32)), .val (.int (3 : Int32))] [])) t₀
    refine XS.iload X8.here hx rfl (hb hby d1_58) rfl ?_
    show Steps p.tables e below (T8.setTop (mkF m 60 #[.val (.int cp), .val (.ref a2), .val (.int ov), .val (.int (3 : Int32)), .val (.int (3 : Int32))] [(.int (3 : Int32))])) t₀
    refine XS.iloadN X8.here hx rfl (hb hby d1_60) rfl ?_
    show Steps p.tables e below (T8.setTop (mkF m 61 #[.val (.int cp), .val (.ref a2), .val (.int ov), .val (.int (3 : Int32)), .val (.int (3 : Int32))] [(.int (3 : Int32)), (.int (3 : Int32))])) t₀
    refine XS.icmpYes X8.here hx rfl (pc0 := 61) (pc' := 95) rfl (hb hby d1_61) rfl (flt (by decide : ¬ ((3 : Int32) < (3 : Int32)))).2.1 (by decide) (by decide) ?_
    show Steps p.tables e below (T8.setTop (mkF m 95 #[.val (.int cp), .val (.ref a2), .val (.int ov), .val (.int (3 : Int32)), .val (.int (3 : Int32))] [])) t₀
    refine XS.iloadN X8.here hx rfl (hb hby d1_95) rfl ?_
    exact k₀
  refine hF _ T8 _ _ _ (some (.int (3 : Int32))) _ X8 e8 (fun h => by rw [hrt] at h; cases h) (by decide) (by decide) ?_ (fun fs hr => own_retI X8 hx hrt (hb hby d1_96) hr)
  exact ⟨_, rfl, N8, k_x8, OB8, ((rs2 _ (by omega)).trans ((rs1 _ (by omega)).trans (at0))), ((rs2 _ (by omega)).trans (at1)), (at2), fun i hi => (rs2 i (by omega)).trans ((rs1 i (by omega)).trans ((rs0 i (by omega)).trans (rfl)))⟩
theorem ef_rmE4 (m : MethodId) (x0 : Int32) (x1 : Addr) (x2 : Int32) : entryFrame m #[(.int x0), (.ref x1), (.int x2)] 5 = mkF m 0 #[.val (.int x0), .val (.ref x1), .val (.int x2), .unset, .unset] [] := by first | (simp [entryFrame, mkF, argsToLocals, Value.category]; done) | rfl
def Q_rmE4 (Z : State) (cp : Int32) (a2 : Addr) (ov fb : Int32) (wL : Addr) (kL : ClassId) (h0 : Heap) (n0 : Nat) (v : Option Value) (h : Heap) (L : List Loc) : Prop := ∃ f, v = some (.int (4 : Int32)) ∧ Fr n0 L ∧ Keep h0 h [a2] ∧ OwnB Z h a2 f ∧ f (ov.toNatClampNeg) = (((240 : Int32) ||| (cp >>> ((18 : Int32) &&& 31))).toInt8.toInt32) ∧ f (ov.toNatClampNeg + 1) = (((128 : Int32) ||| ((cp >>> ((12 : Int32) &&& 31)) &&& (63 : Int32))).toInt8.toInt32) ∧ f (ov.toNatClampNeg + 2) = (((128 : Int32) ||| ((cp >>> ((6 : Int32) &&& 31)) &&& (63 : Int32))).toInt8.toInt32) ∧ f (ov.toNatClampNeg + 3) = (((128 : Int32) ||| ((cp >>> ((0 : Int32) &&& 31)) &&& (63 : Int32))).toInt8.toInt32) ∧ ∀ i, i < ov.toNatClampNeg ∨ ov.toNatClampNeg + 4 ≤ i → f i = fb
set_option maxRecDepth 65536 in
set_option maxHeartbeats 40000000 in
theorem rmE4 (l : Launch) (Z : State) (a0 : Array Value) (hw : ∀ d ∈ tables_1, d.before a0 Z = true) (ws : List Jvm.Cond) (cp : Int32) (a2 : Addr) (ov fb : Int32) (wL : Addr) (kL : ClassId) (h0 : Heap) (n0 : Nat) (Z0 : n0 ≤ h0.size) (O0 : Old Z n0 h0) (S_LEAD : Sta Z Z.heap "com/example/opledger/opledger/Utf8" "LEAD_BITS" "[I" (.ref wL)) (VL : Arv Z Z.heap wL kL .int (5 : Int32) [(.int (0 : Int32)), (.int (0 : Int32)), (.int (192 : Int32)), (.int (224 : Int32)), (.int (240 : Int32))] (.int (0 : Int32))) (g2 : n0 ≤ a2) (OB : OwnB Z h0 a2 (fun _ => fb)) (hl : 65536 ≤ cp.toInt) (hu : cp.toInt < 1114112) (ho1 : 0 ≤ ov.toInt) (ho2 : ov.toInt ≤ 3) :
    MetFree l (⟨"com/example/opledger/opledger/Utf8", "encode", "(I[BI)I"⟩ : MethodName) (head1 (Jvm.Cond.code (⟨"com/example/opledger/opledger/Utf8", "encode", "(I[BI)I"⟩ : MethodName) prog_87_method_12_code 5 (some .int) :: ws) ({ frames := 0, cells := 0, slots := 0, locals := 0 } : Room)) (fun a U => a = #[(.int cp), (.ref a2), (.int ov)] ∧ Z.Warmed39 U.vm ∧ U.heap = h0) (fun _ _ _ _ _ => True) (fun _ U o U' => ∃ v L, o = .returned v ∧ Q_rmE4 Z cp a2 ov fb wL kL h0 n0 v U'.heap L ∧ FrameEnd U o U' L ({ frames := 0, cells := 0, slots := 0, locals := 0 } : Room).cells ({ frames := 0, cells := 0, slots := 0, locals := 0 } : Room).slots) := by
  refine own_body (Q := fun v h L => Q_rmE4 Z cp a2 ov fb wL kL h0 n0 v h L) pn_1 ?_
  intro p e s m below meth c s₁ G X0 hx hZ hby hml hown hnm hrt e0 hG hF
  have hown : s.vm.findClass "com/example/opledger/opledger/Utf8" = some m.cls := hown
  have N0 := Fr.nil n0
  rw [ef_rmE4 m cp a2 ov]
  show G (s₁.setTop (mkF m 0 #[.val (.int cp), .val (.ref a2), .val (.int ov), .unset, .unset] []))
  refine hG _ (s₁.setTop (mkF m 39 #[.val (.int cp), .val (.ref a2), .val (.int ov), .val (.int (4 : Int32)), .unset] [(.int ov), (.ref a2)])) (fun t₀ k₀ => ?_) ?_
  · show Steps p.tables e below (s₁.setTop (mkF m 0 #[.val (.int cp), .val (.ref a2), .val (.int ov), .unset, .unset] [])) t₀
    refine XS.iloadN X0.here hx rfl (hb hby d1_0) rfl ?_
    show Steps p.tables e below (s₁.setTop (mkF m 1 #[.val (.int cp), .val (.ref a2), .val (.int ov), .unset, .unset] [(.int cp)])) t₀
    refine XS.sipush X0.here hx rfl (hb hby d1_1) ?_
    show Steps p.tables e below (s₁.setTop (mkF m 4 #[.val (.int cp), .val (.ref a2), .val (.int ov), .unset, .unset] [(.int (128 : Int32)), (.int cp)])) t₀
    refine XS.icmpYes X0.here hx rfl (pc0 := 4) (pc' := 12) rfl (hb hby d1_4) rfl (flt (own_ge (k := (128 : Int32)) (Int.le_trans (by decide) hl))).2.1 (by decide) (by decide) ?_
    show Steps p.tables e below (s₁.setTop (mkF m 12 #[.val (.int cp), .val (.ref a2), .val (.int ov), .unset, .unset] [])) t₀
    refine XS.iloadN X0.here hx rfl (hb hby d1_12) rfl ?_
    show Steps p.tables e below (s₁.setTop (mkF m 13 #[.val (.int cp), .val (.ref a2), .val (.int ov), .unset, .unset] [(.int cp)])) t₀
    refine XS.sipush X0.here hx rfl (hb hby d1_13) ?_
    show Steps p.tables e below (s₁.setTop (mkF m 16 #[.val (.int cp), .val (.ref a2), .val (.int ov), .unset, .unset] [(.int (2048 : Int32)), (.int cp)])) t₀
    refine XS.icmpYes X0.here hx rfl (pc0 := 16) (pc' := 24) rfl (hb hby d1_16) rfl (flt (own_ge (k := (2048 : Int32)) (Int.le_trans (by decide) hl))).2.1 (by decide) (by decide) ?_
    show Steps p.tables e below (s₁.setTop (mkF m 24 #[.val (.int cp), .val (.ref a2), .val (.int ov), .unset, .unset] [])) t₀
    refine XS.iloadN X0.here hx rfl (hb hby d1_24) rfl ?_
    show Steps p.tables e below (s₁.setTop (mkF m 25 #[.val (.int cp), .val (.ref a2), .val (.int ov), .unset, .unset] [(.int cp)])) t₀
    refine X0.ldcInt hx hown (mvT hZ (hw _ (List.mem_of_getElem? (i := 14) rfl))) (g := (mkF m 25 #[.val (.int cp), .val (.ref a2), .val (.int ov), .unset, .unset] [(.int cp)])) rfl (hb hby d1_25) _ ?_
    show Steps p.tables e below (s₁.setTop (mkF m 27 #[.val (.int cp), .val (.ref a2), .val (.int ov), .unset, .unset] [(.int (65536 : Int32)), (.int cp)])) t₀
    refine XS.icmpYes X0.here hx rfl (pc0 := 27) (pc' := 35) rfl (hb hby d1_27) rfl (flt (own_ge (k := (65536 : Int32)) (Int.le_trans (by decide) hl))).2.1 (by decide) (by decide) ?_
    show Steps p.tables e below (s₁.setTop (mkF m 35 #[.val (.int cp), .val (.ref a2), .val (.int ov), .unset, .unset] [])) t₀
    refine XS.iconst X0.here hx rfl (hb hby d1_35) ?_
    show Steps p.tables e below (s₁.setTop (mkF m 36 #[.val (.int cp), .val (.ref a2), .val (.int ov), .unset, .unset] [(.int (4 : Int32))])) t₀
    refine XS.istoreN X0.here hx rfl (hb hby d1_36) rfl (l' := #[.val (.int cp), .val (.ref a2), .val (.int ov), .val (.int (4 : Int32)), .unset]) rfl ?_
    show Steps p.tables e below (s₁.setTop (mkF m 37 #[.val (.int cp), .val (.ref a2), .val (.int ov), .val (.int (4 : Int32)), .unset] [])) t₀
    refine XS.aloadN X0.here hx rfl (hb hby d1_37) rfl rfl ?_
    show Steps p.tables e below (s₁.setTop (mkF m 38 #[.val (.int cp), .val (.ref a2), .val (.int ov), .val (.int (4 : Int32)), .unset] [(.ref a2)])) t₀
    refine XS.iloadN X0.here hx rfl (hb hby d1_38) rfl ?_
    exact k₀
  obtain ⟨T1, X1, e1, st1⟩ := getS2 X0 hx hZ hown (host := "") (Or.inl (hw _ (List.mem_of_getElem? (i := 6) rfl))) Via.refl e0 (S_LEAD.ext O0.2) (g := (mkF m 39 #[.val (.int cp), .val (.ref a2), .val (.int ov), .val (.int (4 : Int32)), .unset] [(.int ov), (.ref a2)])) rfl (hb hby d1_39)
  refine hG _ _ (fun t₀ k₀ => st1 _ k₀) ?_
  show G (T1.setTop (mkF m 42 #[.val (.int cp), .val (.ref a2), .val (.int ov), .val (.int (4 : Int32)), .unset] [(.ref wL), (.int ov), (.ref a2)]))
  refine hG _ (T1.setTop (mkF m 43 #[.val (.int cp), .val (.ref a2), .val (.int ov), .val (.int (4 : Int32)), .unset] [(.int (4 : Int32)), (.ref wL), (.int ov), (.ref a2)])) (fun t₀ k₀ => ?_) ?_
  · show Steps p.tables e below (T1.setTop (mkF m 42 #[.val (.int cp), .val (.ref a2), .val (.int ov), .val (.int (4 : Int32)), .unset] [(.ref wL), (.int ov), (.ref a2)])) t₀
    refine XS.iloadN X1.here hx rfl (hb hby d1_42) rfl ?_
    exact k₀
  have ov2 := (VL.ext O0.2)
  obtain ⟨cl2, Ar2, q2, S2, N_2, H_2, G_2⟩ := ov2
  have hin2 : ¬ ((4 : Int32) < 0 ∨ cl2.slots.size ≤ ((4 : Int32)).toNatClampNeg) := inb_of S2 ⟨by decide, by decide⟩
  have hat2 : cl2.slots[((4 : Int32)).toNatClampNeg]? = some (.int (240 : Int32)) := H_2.at hin2 rfl
  refine hG _ (T1.setTop (mkF m 54 #[.val (.int cp), .val (.ref a2), .val (.int ov), .val (.int (4 : Int32)), .unset] [(.int (((240 : Int32) ||| (cp >>> ((18 : Int32) &&& 31))).toInt8.toInt32)), (.int ov), (.ref a2)])) (fun t₀ k₀ => ?_) ?_
  · show Steps p.tables e below (T1.setTop (mkF m 43 #[.val (.int cp), .val (.ref a2), .val (.int ov), .val (.int (4 : Int32)), .unset] [(.int (4 : Int32)), (.ref wL), (.int ov), (.ref a2)])) t₀
    refine X1.iaload hx (j := (4 : Int32)) (v := (.int (240 : Int32))) (by rw [e1]; exact Ar2.1) (State.isArrayOf_alike hZ.alike Ar2.2.1) Ar2.2.2 hin2 hat2 (g := (mkF m 43 #[.val (.int cp), .val (.ref a2), .val (.int ov), .val (.int (4 : Int32)), .unset] [(.int (4 : Int32)), (.ref wL), (.int ov), (.ref a2)])) rfl rfl (hb hby d1_43) _ ?_
    show Steps p.tables e below (T1.setTop (mkF m 44 #[.val (.int cp), .val (.ref a2), .val (.int ov), .val (.int (4 : Int32)), .unset] [(.int (240 : Int32)), (.int ov), (.ref a2)])) t₀
    refine XS.iloadN X1.here hx rfl (hb hby d1_44) rfl ?_
    show Steps p.tables e below (T1.setTop (mkF m 45 #[.val (.int cp), .val (.ref a2), .val (.int ov), .val (.int (4 : Int32)), .unset] [(.int cp), (.int (240 : Int32)), (.int ov), (.ref a2)])) t₀
    refine XS.bipush X1.here hx rfl (hb hby d1_45) ?_
    show Steps p.tables e below (T1.setTop (mkF m 47 #[.val (.int cp), .val (.ref a2), .val (.int ov), .val (.int (4 : Int32)), .unset] [(.int (6 : Int32)), (.int cp), (.int (240 : Int32)), (.int ov), (.ref a2)])) t₀
    refine XS.iloadN X1.here hx rfl (hb hby d1_47) rfl ?_
    show Steps p.tables e below (T1.setTop (mkF m 48 #[.val (.int cp), .val (.ref a2), .val (.int ov), .val (.int (4 : Int32)), .unset] [(.int (4 : Int32)), (.int (6 : Int32)), (.int cp), (.int (240 : Int32)), (.int ov), (.ref a2)])) t₀
    refine XS.iconst X1.here hx rfl (hb hby d1_48) ?_
    show Steps p.tables e below (T1.setTop (mkF m 49 #[.val (.int cp), .val (.ref a2), .val (.int ov), .val (.int (4 : Int32)), .unset] [(.int (1 : Int32)), (.int (4 : Int32)), (.int (6 : Int32)), (.int cp), (.int (240 : Int32)), (.int ov), (.ref a2)])) t₀
    refine XS.isub X1.here hx rfl (hb hby d1_49) rfl ?_
    show Steps p.tables e below (T1.setTop (mkF m 50 #[.val (.int cp), .val (.ref a2), .val (.int ov), .val (.int (4 : Int32)), .unset] [(.int (3 : Int32)), (.int (6 : Int32)), (.int cp), (.int (240 : Int32)), (.int ov), (.ref a2)])) t₀
    refine XS.imul X1.here hx rfl (hb hby d1_50) rfl ?_
    show Steps p.tables e below (T1.setTop (mkF m 51 #[.val (.int cp), .val (.ref a2), .val (.int ov), .val (.int (4 : Int32)), .unset] [(.int (18 : Int32)), (.int cp), (.int (240 : Int32)), (.int ov), (.ref a2)])) t₀
    refine XS.ishr X1.here hx rfl (hb hby d1_51) rfl ?_
    show Steps p.tables e below (T1.setTop (mkF m 52 #[.val (.int cp), .val (.ref a2), .val (.int ov), .val (.int (4 : Int32)), .unset] [(.int (cp >>> ((18 : Int32) &&& 31))), (.int (240 : Int32)), (.int ov), (.ref a2)])) t₀
    refine XS.ior X1.here hx rfl (hb hby d1_52) rfl ?_
    show Steps p.tables e below (T1.setTop (mkF m 53 #[.val (.int cp), .val (.ref a2), .val (.int ov), .val (.int (4 : Int32)), .unset] [(.int ((240 : Int32) ||| (cp >>> ((18 : Int32) &&& 31)))), (.int ov), (.ref a2)])) t₀
    refine XS.i2b X1.here hx rfl (hb hby d1_53) rfl ?_
    exact k₀
  obtain ⟨cl3, Ar3, sz3, Hf3⟩ := OB
  have hin3 := own_inb (j := ov) sz3 (by omega) (by omega)
  obtain ⟨T4, h4, X4, e4, W4, st4⟩ := stB X1 hx hZ e1 Ar3 (j := ov) hin3 (g := (mkF m 54 #[.val (.int cp), .val (.ref a2), .val (.int ov), .val (.int (4 : Int32)), .unset] [(.int (((240 : Int32) ||| (cp >>> ((18 : Int32) &&& 31))).toInt8.toInt32)), (.int ov), (.ref a2)])) rfl rfl (hb hby d1_54)
  refine hG _ _ (fun t₀ k₀ => st4 _ k₀) ?_
  have N4 := Fr.snoc X4 N0 g2
  have o_x4 := O0.wr W4 g2
  have k_x4 := (Keep.refl h0 [a2]).wr W4 (Or.inl (List.mem_of_getElem? (i := 0) rfl))
  have z_4 : n0 ≤ h4.size := Nat.le_trans Z0 (Keep.of_wr W4).1
  obtain ⟨f4, OB4, at0, rs0⟩ := own_set Ar3 sz3 Hf3 W4
  have at0 : f4 (ov.toNatClampNeg) = (((240 : Int32) ||| (cp >>> ((18 : Int32) &&& 31))).toInt8.toInt32) := at0.trans (own_i2b _)
  show G (T4.setTop (mkF m 55 #[.val (.int cp), .val (.ref a2), .val (.int ov), .val (.int (4 : Int32)), .unset] []))
  refine hG _ (T4.setTop (mkF m 88 #[.val (.int cp), .val (.ref a2), .val (.int ov), .val (.int (4 : Int32)), .val (.int (1 : Int32))] [(.int (((128 : Int32) ||| ((cp >>> ((12 : Int32) &&& 31)) &&& (63 : Int32))).toInt8.toInt32)), (.int (ov + (1 : Int32))), (.ref a2)])) (fun t₀ k₀ => ?_) ?_
  · show Steps p.tables e below (T4.setTop (mkF m 55 #[.val (.int cp), .val (.ref a2), .val (.int ov), .val (.int (4 : Int32)), .unset] [])) t₀
    refine XS.iconst X4.here hx rfl (hb hby d1_55) ?_
    show Steps p.tables e below (T4.setTop (mkF m 56 #[.val (.int cp), .val (.ref a2), .val (.int ov), .val (.int (4 : Int32)), .unset] [(.int (1 : Int32))])) t₀
    refine XS.istore X4.here hx rfl (hb hby d1_56) rfl (l' := #[.val (.int cp), .val (.ref a2), .val (.int ov), .val (.int (4 : Int32)), .val (.int (1 : Int32))]) rfl ?_
    show Steps p.tables e below (T4.setTop (mkF m 58 #[.val (.int cp), .val (.ref a2), .val (.int ov), .val (.int (4 : Int32)), .val (.int (1 : Int32))] [])) t₀
    refine XS.iload X4.here hx rfl (hb hby d1_58) rfl ?_
    show Steps p.tables e below (T4.setTop (mkF m 60 #[.val (.int cp), .val (.ref a2), .val (.int ov), .val (.int (4 : Int32)), .val (.int (1 : Int32))] [(.int (1 : Int32))])) t₀
    refine XS.iloadN X4.here hx rfl (hb hby d1_60) rfl ?_
    show Steps p.tables e below (T4.setTop (mkF m 61 #[.val (.int cp), .val (.ref a2), .val (.int ov), .val (.int (4 : Int32)), .val (.int (1 : Int32))] [(.int (4 : Int32)), (.int (1 : Int32))])) t₀
    refine XS.icmpNo X4.here hx rfl (hb hby d1_61) rfl (tlt (by decide : ((1 : Int32) < (4 : Int32)))).2.1 ?_
    show Steps p.tables e below (T4.setTop (mkF m 64 #[.val (.int cp), .val (.ref a2), .val (.int ov), .val (.int (4 : Int32)), .val (.int (1 : Int32))] [])) t₀
    refine XS.aloadN X4.here hx rfl (hb hby d1_64) rfl rfl ?_
    show Steps p.tables e below (T4.setTop (mkF m 65 #[.val (.int cp), .val (.ref a2), .val (.int ov), .val (.int (4 : Int32)), .val (.int (1 : Int32))] [(.ref a2)])) t₀
    refine XS.iloadN X4.here hx rfl (hb hby d1_65) rfl ?_
    show Steps p.tables e below (T4.setTop (mkF m 66 #[.val (.int cp), .val (.ref a2), .val (.int ov), .val (.int (4 : Int32)), .val (.int (1 : Int32))] [(.int ov), (.ref a2)])) t₀
    refine XS.iload X4.here hx rfl (hb hby d1_66) rfl ?_
    show Steps p.tables e below (T4.setTop (mkF m 68 #[.val (.int cp), .val (.ref a2), .val (.int ov), .val (.int (4 : Int32)), .val (.int (1 : Int32))] [(.int (1 : Int32)), (.int ov), (.ref a2)])) t₀
    refine XS.iadd X4.here hx rfl (hb hby d1_68) rfl ?_
    show Steps p.tables e below (T4.setTop (mkF m 69 #[.val (.int cp), .val (.ref a2), .val (.int ov), .val (.int (4 : Int32)), .val (.int (1 : Int32))] [(.int (ov + (1 : Int32))), (.ref a2)])) t₀
    refine XS.sipush X4.here hx rfl (hb hby d1_69) ?_
    show Steps p.tables e below (T4.setTop (mkF m 72 #[.val (.int cp), .val (.ref a2), .val (.int ov), .val (.int (4 : Int32)), .val (.int (1 : Int32))] [(.int (128 : Int32)), (.int (ov + (1 : Int32))), (.ref a2)])) t₀
    refine XS.iloadN X4.here hx rfl (hb hby d1_72) rfl ?_
    show Steps p.tables e below (T4.setTop (mkF m 73 #[.val (.int cp), .val (.ref a2), .val (.int ov), .val (.int (4 : Int32)), .val (.int (1 : Int32))] [(.int cp), (.int (128 : Int32)), (.int (ov + (1 : Int32))), (.ref a2)])) t₀
    refine XS.bipush X4.here hx rfl (hb hby d1_73) ?_
    show Steps p.tables e below (T4.setTop (mkF m 75 #[.val (.int cp), .val (.ref a2), .val (.int ov), .val (.int (4 : Int32)), .val (.int (1 : Int32))] [(.int (6 : Int32)), (.int cp), (.int (128 : Int32)), (.int (ov + (1 : Int32))), (.ref a2)])) t₀
    refine XS.iloadN X4.here hx rfl (hb hby d1_75) rfl ?_
    show Steps p.tables e below (T4.setTop (mkF m 76 #[.val (.int cp), .val (.ref a2), .val (.int ov), .val (.int (4 : Int32)), .val (.int (1 : Int32))] [(.int (4 : Int32)), (.int (6 : Int32)), (.int cp), (.int (128 : Int32)), (.int (ov + (1 : Int32))), (.ref a2)])) t₀
    refine XS.iconst X4.here hx rfl (hb hby d1_76) ?_
    show Steps p.tables e below (T4.setTop (mkF m 77 #[.val (.int cp), .val (.ref a2), .val (.int ov), .val (.int (4 : Int32)), .val (.int (1 : Int32))] [(.int (1 : Int32)), (.int (4 : Int32)), (.int (6 : Int32)), (.int cp), (.int (128 : Int32)), (.int (ov + (1 : Int32))), (.ref a2)])) t₀
    refine XS.isub X4.here hx rfl (hb hby d1_77) rfl ?_
    show Steps p.tables e below (T4.setTop (mkF m 78 #[.val (.int cp), .val (.ref a2), .val (.int ov), .val (.int (4 : Int32)), .val (.int (1 : Int32))] [(.int (3 : Int32)), (.int (6 : Int32)), (.int cp), (.int (128 : Int32)), (.int (ov + (1 : Int32))), (.ref a2)])) t₀
    refine XS.iload X4.here hx rfl (hb hby d1_78) rfl ?_
    show Steps p.tables e below (T4.setTop (mkF m 80 #[.val (.int cp), .val (.ref a2), .val (.int ov), .val (.int (4 : Int32)), .val (.int (1 : Int32))] [(.int (1 : Int32)), (.int (3 : Int32)), (.int (6 : Int32)), (.int cp), (.int (128 : Int32)), (.int (ov + (1 : Int32))), (.ref a2)])) t₀
    refine XS.isub X4.here hx rfl (hb hby d1_80) rfl ?_
    show Steps p.tables e below (T4.setTop (mkF m 81 #[.val (.int cp), .val (.ref a2), .val (.int ov), .val (.int (4 : Int32)), .val (.int (1 : Int32))] [(.int (2 : Int32)), (.int (6 : Int32)), (.int cp), (.int (128 : Int32)), (.int (ov + (1 : Int32))), (.ref a2)])) t₀
    refine XS.imul X4.here hx rfl (hb hby d1_81) rfl ?_
    show Steps p.tables e below (T4.setTop (mkF m 82 #[.val (.int cp), .val (.ref a2), .val (.int ov), .val (.int (4 : Int32)), .val (.int (1 : Int32))] [(.int (12 : Int32)), (.int cp), (.int (128 : Int32)), (.int (ov + (1 : Int32))), (.ref a2)])) t₀
    refine XS.ishr X4.here hx rfl (hb hby d1_82) rfl ?_
    show Steps p.tables e below (T4.setTop (mkF m 83 #[.val (.int cp), .val (.ref a2), .val (.int ov), .val (.int (4 : Int32)), .val (.int (1 : Int32))] [(.int (cp >>> ((12 : Int32) &&& 31))), (.int (128 : Int32)), (.int (ov + (1 : Int32))), (.ref a2)])) t₀
    refine XS.bipush X4.here hx rfl (hb hby d1_83) ?_
    show Steps p.tables e below (T4.setTop (mkF m 85 #[.val (.int cp), .val (.ref a2), .val (.int ov), .val (.int (4 : Int32)), .val (.int (1 : Int32))] [(.int (63 : Int32)), (.int (cp >>> ((12 : Int32) &&& 31))), (.int (128 : Int32)), (.int (ov + (1 : Int32))), (.ref a2)])) t₀
    refine XS.iand X4.here hx rfl (hb hby d1_85) rfl ?_
    show Steps p.tables e below (T4.setTop (mkF m 86 #[.val (.int cp), .val (.ref a2), .val (.int ov), .val (.int (4 : Int32)), .val (.int (1 : Int32))] [(.int ((cp >>> ((12 : Int32) &&& 31)) &&& (63 : Int32))), (.int (128 : Int32)), (.int (ov + (1 : Int32))), (.ref a2)])) t₀
    refine XS.ior X4.here hx rfl (hb hby d1_86) rfl ?_
    show Steps p.tables e below (T4.setTop (mkF m 87 #[.val (.int cp), .val (.ref a2), .val (.int ov), .val (.int (4 : Int32)), .val (.int (1 : Int32))] [(.int ((128 : Int32) ||| ((cp >>> ((12 : Int32) &&& 31)) &&& (63 : Int32)))), (.int (ov + (1 : Int32))), (.ref a2)])) t₀
    refine XS.i2b X4.here hx rfl (hb hby d1_87) rfl ?_
    exact k₀
  obtain ⟨cl5, Ar5, sz5, Hf5⟩ := OB4
  have ix1 := own_ix (ov := ov) (1 : Int32) 1 rfl (by decide) ho1 ho2
  have hin5 := own_inb (j := (ov + (1 : Int32))) sz5 (by omega) (by omega)
  obtain ⟨T6, h6, X6, e6, W6, st6⟩ := stB X4 hx hZ e4 Ar5 (j := (ov + (1 : Int32))) hin5 (g := (mkF m 88 #[.val (.int cp), .val (.ref a2), .val (.int ov), .val (.int (4 : Int32)), .val (.int (1 : Int32))] [(.int (((128 : Int32) ||| ((cp >>> ((12 : Int32) &&& 31)) &&& (63 : Int32))).toInt8.toInt32)), (.int (ov + (1 : Int32))), (.ref a2)])) rfl rfl (hb hby d1_88)
  refine hG _ _ (fun t₀ k₀ => st6 _ k₀) ?_
  have N6 := Fr.snoc X6 N4 g2
  have o_x6 := o_x4.wr W6 g2
  have k_x6 := k_x4.wr W6 (Or.inl (List.mem_of_getElem? (i := 0) rfl))
  have z_6 : n0 ≤ h6.size := Nat.le_trans z_4 (Keep.of_wr W6).1
  obtain ⟨f6, OB6, at1, rs1⟩ := own_set Ar5 sz5 Hf5 W6
  rw [ix1.1] at at1 rs1
  have at1 : f6 (ov.toNatClampNeg + 1) = (((128 : Int32) ||| ((cp >>> ((12 : Int32) &&& 31)) &&& (63 : Int32))).toInt8.toInt32) := at1.trans (own_i2b _)
  show G (T6.setTop (mkF m 89 #[.val (.int cp), .val (.ref a2), .val (.int ov), .val (.int (4 : Int32)), .val (.int (1 : Int32))] []))
  refine hG _ (T6.setTop (mkF m 88 #[.val (.int cp), .val (.ref a2), .val (.int ov), .val (.int (4 : Int32)), .val (.int (2 : Int32))] [(.int (((128 : Int32) ||| ((cp >>> ((6 : Int32) &&& 31)) &&& (63 : Int32))).toInt8.toInt32)), (.int (ov + (2 : Int32))), (.ref a2)])) (fun t₀ k₀ => ?_) ?_
  · show Steps p.tables e below (T6.setTop (mkF m 89 #[.val (.int cp), .val (.ref a2), .val (.int ov), .val (.int (4 : Int32)), .val (.int (1 : Int32))] [])) t₀
    refine XS.iinc X6.here hx rfl (hb hby d1_89) rfl (l' := #[.val (.int cp), .val (.ref a2), .val (.int ov), .val (.int (4 : Int32)), .val (.int (2 : Int32))]) rfl ?_
    show Steps p.tables e below (T6.setTop (mkF m 92 #[.val (.int cp), .val (.ref a2), .val (.int ov), .val (.int (4 : Int32)), .val (.int (2 : Int32))] [])) t₀
    refine XS.goto X6.here hx rfl (pc0 := 92) (pc' := 58) rfl (hb hby d1_92) (by decide) (by decide) ?_
    show Steps p.tables e below (T6.setTop (mkF m 58 #[.val (.int cp), .val (.ref a2), .val (.int ov), .val (.int (4 : Int32)), .val (.int (2 : Int32))] [])) t₀
    refine XS.iload X6.here hx rfl (hb hby d1_58) rfl ?_
    show Steps p.tables e below (T6.setTop (mkF m 60 #[.val (.int cp), .val (.ref a2), .val (.int ov), .val (.int (4 : Int32)), .val (.int (2 : Int32))] [(.int (2 : Int32))])) t₀
    refine XS.iloadN X6.here hx rfl (hb hby d1_60) rfl ?_
    show Steps p.tables e below (T6.setTop (mkF m 61 #[.val (.int cp), .val (.ref a2), .val (.int ov), .val (.int (4 : Int32)), .val (.int (2 : Int32))] [(.int (4 : Int32)), (.int (2 : Int32))])) t₀
    refine XS.icmpNo X6.here hx rfl (hb hby d1_61) rfl (tlt (by decide : ((2 : Int32) < (4 : Int32)))).2.1 ?_
    show Steps p.tables e below (T6.setTop (mkF m 64 #[.val (.int cp), .val (.ref a2), .val (.int ov), .val (.int (4 : Int32)), .val (.int (2 : Int32))] [])) t₀
    refine XS.aloadN X6.here hx rfl (hb hby d1_64) rfl rfl ?_
    show Steps p.tables e below (T6.setTop (mkF m 65 #[.val (.int cp), .val (.ref a2), .val (.int ov), .val (.int (4 : Int32)), .val (.int (2 : Int32))] [(.ref a2)])) t₀
    refine XS.iloadN X6.here hx rfl (hb hby d1_65) rfl ?_
    show Steps p.tables e below (T6.setTop (mkF m 66 #[.val (.int cp), .val (.ref a2), .val (.int ov), .val (.int (4 : Int32)), .val (.int (2 : Int32))] [(.int ov), (.ref a2)])) t₀
    refine XS.iload X6.here hx rfl (hb hby d1_66) rfl ?_
    show Steps p.tables e below (T6.setTop (mkF m 68 #[.val (.int cp), .val (.ref a2), .val (.int ov), .val (.int (4 : Int32)), .val (.int (2 : Int32))] [(.int (2 : Int32)), (.int ov), (.ref a2)])) t₀
    refine XS.iadd X6.here hx rfl (hb hby d1_68) rfl ?_
    show Steps p.tables e below (T6.setTop (mkF m 69 #[.val (.int cp), .val (.ref a2), .val (.int ov), .val (.int (4 : Int32)), .val (.int (2 : Int32))] [(.int (ov + (2 : Int32))), (.ref a2)])) t₀
    refine XS.sipush X6.here hx rfl (hb hby d1_69) ?_
    show Steps p.tables e below (T6.setTop (mkF m 72 #[.val (.int cp), .val (.ref a2), .val (.int ov), .val (.int (4 : Int32)), .val (.int (2 : Int32))] [(.int (128 : Int32)), (.int (ov + (2 : Int32))), (.ref a2)])) t₀
    refine XS.iloadN X6.here hx rfl (hb hby d1_72) rfl ?_
    show Steps p.tables e below (T6.setTop (mkF m 73 #[.val (.int cp), .val (.ref a2), .val (.int ov), .val (.int (4 : Int32)), .val (.int (2 : Int32))] [(.int cp), (.int (128 : Int32)), (.int (ov + (2 : Int32))), (.ref a2)])) t₀
    refine XS.bipush X6.here hx rfl (hb hby d1_73) ?_
    show Steps p.tables e below (T6.setTop (mkF m 75 #[.val (.int cp), .val (.ref a2), .val (.int ov), .val (.int (4 : Int32)), .val (.int (2 : Int32))] [(.int (6 : Int32)), (.int cp), (.int (128 : Int32)), (.int (ov + (2 : Int32))), (.ref a2)])) t₀
    refine XS.iloadN X6.here hx rfl (hb hby d1_75) rfl ?_
    show Steps p.tables e below (T6.setTop (mkF m 76 #[.val (.int cp), .val (.ref a2), .val (.int ov), .val (.int (4 : Int32)), .val (.int (2 : Int32))] [(.int (4 : Int32)), (.int (6 : Int32)), (.int cp), (.int (128 : Int32)), (.int (ov + (2 : Int32))), (.ref a2)])) t₀
    refine XS.iconst X6.here hx rfl (hb hby d1_76) ?_
    show Steps p.tables e below (T6.setTop (mkF m 77 #[.val (.int cp), .val (.ref a2), .val (.int ov), .val (.int (4 : Int32)), .val (.int (2 : Int32))] [(.int (1 : Int32)), (.int (4 : Int32)), (.int (6 : Int32)), (.int cp), (.int (128 : Int32)), (.int (ov + (2 : Int32))), (.ref a2)])) t₀
    refine XS.isub X6.here hx rfl (hb hby d1_77) rfl ?_
    show Steps p.tables e below (T6.setTop (mkF m 78 #[.val (.int cp), .val (.ref a2), .val (.int ov), .val (.int (4 : Int32)), .val (.int (2 : Int32))] [(.int (3 : Int32)), (.int (6 : Int32)), (.int cp), (.int (128 : Int32)), (.int (ov + (2 : Int32))), (.ref a2)])) t₀
    refine XS.iload X6.here hx rfl (hb hby d1_78) rfl ?_
    show Steps p.tables e below (T6.setTop (mkF m 80 #[.val (.int cp), .val (.ref a2), .val (.int ov), .val (.int (4 : Int32)), .val (.int (2 : Int32))] [(.int (2 : Int32)), (.int (3 : Int32)), (.int (6 : Int32)), (.int cp), (.int (128 : Int32)), (.int (ov + (2 : Int32))), (.ref a2)])) t₀
    refine XS.isub X6.here hx rfl (hb hby d1_80) rfl ?_
    show Steps p.tables e below (T6.setTop (mkF m 81 #[.val (.int cp), .val (.ref a2), .val (.int ov), .val (.int (4 : Int32)), .val (.int (2 : Int32))] [(.int (1 : Int32)), (.int (6 : Int32)), (.int cp), (.int (128 : Int32)), (.int (ov + (2 : Int32))), (.ref a2)])) t₀
    refine XS.imul X6.here hx rfl (hb hby d1_81) rfl ?_
    show Steps p.tables e below (T6.setTop (mkF m 82 #[.val (.int cp), .val (.ref a2), .val (.int ov), .val (.int (4 : Int32)), .val (.int (2 : Int32))] [(.int (6 : Int32)), (.int cp), (.int (128 : Int32)), (.int (ov + (2 : Int32))), (.ref a2)])) t₀
    refine XS.ishr X6.here hx rfl (hb hby d1_82) rfl ?_
    show Steps p.tables e below (T6.setTop (mkF m 83 #[.val (.int cp), .val (.ref a2), .val (.int ov), .val (.int (4 : Int32)), .val (.int (2 : Int32))] [(.int (cp >>> ((6 : Int32) &&& 31))), (.int (128 : Int32)), (.int (ov + (2 : Int32))), (.ref a2)])) t₀
    refine XS.bipush X6.here hx rfl (hb hby d1_83) ?_
    show Steps p.tables e below (T6.setTop (mkF m 85 #[.val (.int cp), .val (.ref a2), .val (.int ov), .val (.int (4 : Int32)), .val (.int (2 : Int32))] [(.int (63 : Int32)), (.int (cp >>> ((6 : Int32) &&& 31))), (.int (128 : Int32)), (.int (ov + (2 : Int32))), (.ref a2)])) t₀
    refine XS.iand X6.here hx rfl (hb hby d1_85) rfl ?_
    show Steps p.tables e below (T6.setTop (mkF m 86 #[.val (.int cp), .val (.ref a2), .val (.int ov), .val (.int (4 : Int32)), .val (.int (2 : Int32))] [(.int ((cp >>> ((6 : Int32) &&& 31)) &&& (63 : Int32))), (.int (128 : Int32)), (.int (ov + (2 : Int32))), (.ref a2)])) t₀
    refine XS.ior X6.here hx rfl (hb hby d1_86) rfl ?_
    show Steps p.tables e below (T6.setTop (mkF m 87 #[.val (.int cp), .val (.ref a2), .val (.int ov), .val (.int (4 : Int32)), .val (.int (2 : Int32))] [(.int ((128 : Int32) ||| ((cp >>> ((6 : Int32) &&& 31)) &&& (63 : Int32)))), (.int (ov + (2 : Int32))), (.ref a2)])) t₀
    refine XS.i2b X6.here hx rfl (hb hby d1_87) rfl ?_
    exact k₀
  obtain ⟨cl7, Ar7, sz7, Hf7⟩ := OB6
  have ix2 := own_ix (ov := ov) (2 : Int32) 2 rfl (by decide) ho1 ho2
  have hin7 := own_inb (j := (ov + (2 : Int32))) sz7 (by omega) (by omega)
  obtain ⟨T8, h8, X8, e8, W8, st8⟩ := stB X6 hx hZ e6 Ar7 (j := (ov + (2 : Int32))) hin7 (g := (mkF m 88 #[.val (.int cp), .val (.ref a2), .val (.int ov), .val (.int (4 : Int32)), .val (.int (2 : Int32))] [(.int (((128 : Int32) ||| ((cp >>> ((6 : Int32) &&& 31)) &&& (63 : Int32))).toInt8.toInt32)), (.int (ov + (2 : Int32))), (.ref a2)])) rfl rfl (hb hby d1_88)
  refine hG _ _ (fun t₀ k₀ => st8 _ k₀) ?_
  have N8 := Fr.snoc X8 N6 g2
  have o_x8 := o_x6.wr W8 g2
  have k_x8 := k_x6.wr W8 (Or.inl (List.mem_of_getElem? (i := 0) rfl))
  have z_8 : n0 ≤ h8.size := Nat.le_trans z_6 (Keep.of_wr W8).1
  obtain ⟨f8, OB8, at2, rs2⟩ := own_set Ar7 sz7 Hf7 W8
  rw [ix2.1] at at2 rs2
  have at2 : f8 (ov.toNatClampNeg + 2) = (((128 : Int32) ||| ((cp >>> ((6 : Int32) &&& 31)) &&& (63 : Int32))).toInt8.toInt32) := at2.trans (own_i2b _)
  show G (T8.setTop (mkF m 89 #[.val (.int cp), .val (.ref a2), .val (.int ov), .val (.int (4 : Int32)), .val (.int (2 : Int32))] []))
  refine hG _ (T8.setTop (mkF m 88 #[.val (.int cp), .val (.ref a2), .val (.int ov), .val (.int (4 : Int32)), .val (.int (3 : Int32))] [(.int (((128 : Int32) ||| ((cp >>> ((0 : Int32) &&& 31)) &&& (63 : Int32))).toInt8.toInt32)), (.int (ov + (3 : Int32))), (.ref a2)])) (fun t₀ k₀ => ?_) ?_
  · show Steps p.tables e below (T8.setTop (mkF m 89 #[.val (.int cp), .val (.ref a2), .val (.int ov), .val (.int (4 : Int32)), .val (.int (2 : Int32))] [])) t₀
    refine XS.iinc X8.here hx rfl (hb hby d1_89) rfl (l' := #[.val (.int cp), .val (.ref a2), .val (.int ov), .val (.int (4 : Int32)), .val (.int (3 : Int32))]) rfl ?_
    show Steps p.tables e below (T8.setTop (mkF m 92 #[.val (.int cp), .val (.ref a2), .val (.int ov), .val (.int (4 : Int32)), .val (.int (3 : Int32))] [])) t₀
    refine XS.goto X8.here hx rfl (pc0 := 92) (pc' := 58) rfl (hb hby d1_92) (by decide) (by decide) ?_
    show Steps p.tables e below (T8.setTop (mkF m 58 #[.val (.int cp), .val (.ref a2), .val (.int ov), .val (.int (4 : Int32)), .val (.int (3 : Int32))] [])) t₀
    refine XS.iload X8.here hx rfl (hb hby d1_58) rfl ?_
    show Steps p.tables e below (T8.setTop (mkF m 60 #[.val (.int cp), .val (.ref a2), .val (.int ov), .val (.int (4 : Int32)), .val (.int (3 : Int32))] [(.int (3 : Int32))])) t₀
    refine XS.iloadN X8.here hx rfl (hb hby d1_60) rfl ?_
    show Steps p.tables e below (T8.setTop (mkF m 61 #[.val (.int cp), .val (.ref a2), .val (.int ov), .val (.int (4 : Int32)), .val (.int (3 : Int32))] [(.int (4 : Int32)), (.int (3 : Int32))])) t₀
    refine XS.icmpNo X8.here hx rfl (hb hby d1_61) rfl (tlt (by decide : ((3 : Int32) < (4 : Int32)))).2.1 ?_
    show Steps p.tables e below (T8.setTop (mkF m 64 #[.val (.int cp), .val (.ref a2), .val (.int ov), .val (.int (4 : Int32)), .val (.int (3 : Int32))] [])) t₀
    refine XS.aloadN X8.here hx rfl (hb hby d1_64) rfl rfl ?_
    show Steps p.tables e below (T8.setTop (mkF m 65 #[.val (.int cp), .val (.ref a2), .val (.int ov), .val (.int (4 : Int32)), .val (.int (3 : Int32))] [(.ref a2)])) t₀
    refine XS.iloadN X8.here hx rfl (hb hby d1_65) rfl ?_
    show Steps p.tables e below (T8.setTop (mkF m 66 #[.val (.int cp), .val (.ref a2), .val (.int ov), .val (.int (4 : Int32)), .val (.int (3 : Int32))] [(.int ov), (.ref a2)])) t₀
    refine XS.iload X8.here hx rfl (hb hby d1_66) rfl ?_
    show Steps p.tables e below (T8.setTop (mkF m 68 #[.val (.int cp), .val (.ref a2), .val (.int ov), .val (.int (4 : Int32)), .val (.int (3 : Int32))] [(.int (3 : Int32)), (.int ov), (.ref a2)])) t₀
    refine XS.iadd X8.here hx rfl (hb hby d1_68) rfl ?_
    show Steps p.tables e below (T8.setTop (mkF m 69 #[.val (.int cp), .val (.ref a2), .val (.int ov), .val (.int (4 : Int32)), .val (.int (3 : Int32))] [(.int (ov + (3 : Int32))), (.ref a2)])) t₀
    refine XS.sipush X8.here hx rfl (hb hby d1_69) ?_
    show Steps p.tables e below (T8.setTop (mkF m 72 #[.val (.int cp), .val (.ref a2), .val (.int ov), .val (.int (4 : Int32)), .val (.int (3 : Int32))] [(.int (128 : Int32)), (.int (ov + (3 : Int32))), (.ref a2)])) t₀
    refine XS.iloadN X8.here hx rfl (hb hby d1_72) rfl ?_
    show Steps p.tables e below (T8.setTop (mkF m 73 #[.val (.int cp), .val (.ref a2), .val (.int ov), .val (.int (4 : Int32)), .val (.int (3 : Int32))] [(.int cp), (.int (128 : Int32)), (.int (ov + (3 : Int32))), (.ref a2)])) t₀
    refine XS.bipush X8.here hx rfl (hb hby d1_73) ?_
    show Steps p.tables e below (T8.setTop (mkF m 75 #[.val (.int cp), .val (.ref a2), .val (.int ov), .val (.int (4 : Int32)), .val (.int (3 : Int32))] [(.int (6 : Int32)), (.int cp), (.int (128 : Int32)), (.int (ov + (3 : Int32))), (.ref a2)])) t₀
    refine XS.iloadN X8.here hx rfl (hb hby d1_75) rfl ?_
    show Steps p.tables e below (T8.setTop (mkF m 76 #[.val (.int cp), .val (.ref a2), .val (.int ov), .val (.int (4 : Int32)), .val (.int (3 : Int32))] [(.int (4 : Int32)), (.int (6 : Int32)), (.int cp), (.int (128 : Int32)), (.int (ov + (3 : Int32))), (.ref a2)])) t₀
    refine XS.iconst X8.here hx rfl (hb hby d1_76) ?_
    show Steps p.tables e below (T8.setTop (mkF m 77 #[.val (.int cp), .val (.ref a2), .val (.int ov), .val (.int (4 : Int32)), .val (.int (3 : Int32))] [(.int (1 : Int32)), (.int (4 : Int32)), (.int (6 : Int32)), (.int cp), (.int (128 : Int32)), (.int (ov + (3 : Int32))), (.ref a2)])) t₀
    refine XS.isub X8.here hx rfl (hb hby d1_77) rfl ?_
    show Steps p.tables e below (T8.setTop (mkF m 78 #[.val (.int cp), .val (.ref a2), .val (.int ov), .val (.int (4 : Int32)), .val (.int (3 : Int32))] [(.int (3 : Int32)), (.int (6 : Int32)), (.int cp), (.int (128 : Int32)), (.int (ov + (3 : Int32))), (.ref a2)])) t₀
    refine XS.iload X8.here hx rfl (hb hby d1_78) rfl ?_
    show Steps p.tables e below (T8.setTop (mkF m 80 #[.val (.int cp), .val (.ref a2), .val (.int ov), .val (.int (4 : Int32)), .val (.int (3 : Int32))] [(.int (3 : Int32)), (.int (3 : Int32)), (.int (6 : Int32)), (.int cp), (.int (128 : Int32)), (.int (ov + (3 : Int32))), (.ref a2)])) t₀
    refine XS.isub X8.here hx rfl (hb hby d1_80) rfl ?_
    show Steps p.tables e below (T8.setTop (mkF m 81 #[.val (.int cp), .val (.ref a2), .val (.int ov), .val (.int (4 : Int32)), .val (.int (3 : Int32))] [(.int (0 : Int32)), (.int (6 : Int32)), (.int cp), (.int (128 : Int32)), (.int (ov + (3 : Int32))), (.ref a2)])) t₀
    refine XS.imul X8.here hx rfl (hb hby d1_81) rfl ?_
    show Steps p.tables e below (T8.setTop (mkF m 82 #[.val (.int cp), .val (.ref a2), .val (.int ov), .val (.int (4 : Int32)), .val (.int (3 : Int32))] [(.int (0 : Int32)), (.int cp), (.int (128 : Int32)), (.int (ov + (3 : Int32))), (.ref a2)])) t₀
    refine XS.ishr X8.here hx rfl (hb hby d1_82) rfl ?_
    show Steps p.tables e below (T8.setTop (mkF m 83 #[.val (.int cp), .val (.ref a2), .val (.int ov), .val (.int (4 : Int32)), .val (.int (3 : Int32))] [(.int (cp >>> ((0 : Int32) &&& 31))), (.int (128 : Int32)), (.int (ov + (3 : Int32))), (.ref a2)])) t₀
    refine XS.bipush X8.here hx rfl (hb hby d1_83) ?_
    show Steps p.tables e below (T8.setTop (mkF m 85 #[.val (.int cp), .val (.ref a2), .val (.int ov), .val (.int (4 : Int32)), .val (.int (3 : Int32))] [(.int (63 : Int32)), (.int (cp >>> ((0 : Int32) &&& 31))), (.int (128 : Int32)), (.int (ov + (3 : Int32))), (.ref a2)])) t₀
    refine XS.iand X8.here hx rfl (hb hby d1_85) rfl ?_
    show Steps p.tables e below (T8.setTop (mkF m 86 #[.val (.int cp), .val (.ref a2), .val (.int ov), .val (.int (4 : Int32)), .val (.int (3 : Int32))] [(.int ((cp >>> ((0 : Int32) &&& 31)) &&& (63 : Int32))), (.int (128 : Int32)), (.int (ov + (3 : Int32))), (.ref a2)])) t₀
    refine XS.ior X8.here hx rfl (hb hby d1_86) rfl ?_
    show Steps p.tables e below (T8.setTop (mkF m 87 #[.val (.int cp), .val (.ref a2), .val (.int ov), .val (.int (4 : Int32)), .val (.int (3 : Int32))] [(.int ((128 : Int32) ||| ((cp >>> ((0 : Int32) &&& 31)) &&& (63 : Int32)))), (.int (ov + (3 : Int32))), (.ref a2)])) t₀
    refine XS.i2b X8.here hx rfl (hb hby d1_87) rfl ?_
    exact k₀
  obtain ⟨cl9, Ar9, sz9, Hf9⟩ := OB8
  have ix3 := own_ix (ov := ov) (3 : Int32) 3 rfl (by decide) ho1 ho2
  have hin9 := own_inb (j := (ov + (3 : Int32))) sz9 (by omega) (by omega)
  obtain ⟨T10, h10, X10, e10, W10, st10⟩ := stB X8 hx hZ e8 Ar9 (j := (ov + (3 : Int32))) hin9 (g := (mkF m 88 #[.val (.int cp), .val (.ref a2), .val (.int ov), .val (.int (4 : Int32)), .val (.int (3 : Int32))] [(.int (((128 : Int32) ||| ((cp >>> ((0 : Int32) &&& 31)) &&& (63 : Int32))).toInt8.toInt32)), (.int (ov + (3 : Int32))), (.ref a2)])) rfl rfl (hb hby d1_88)
  refine hG _ _ (fun t₀ k₀ => st10 _ k₀) ?_
  have N10 := Fr.snoc X10 N8 g2
  have o_x10 := o_x8.wr W10 g2
  have k_x10 := k_x8.wr W10 (Or.inl (List.mem_of_getElem? (i := 0) rfl))
  have z_10 : n0 ≤ h10.size := Nat.le_trans z_8 (Keep.of_wr W10).1
  obtain ⟨f10, OB10, at3, rs3⟩ := own_set Ar9 sz9 Hf9 W10
  rw [ix3.1] at at3 rs3
  have at3 : f10 (ov.toNatClampNeg + 3) = (((128 : Int32) ||| ((cp >>> ((0 : Int32) &&& 31)) &&& (63 : Int32))).toInt8.toInt32) := at3.trans (own_i2b _)
  show G (T10.setTop (mkF m 89 #[.val (.int cp), .val (.ref a2), .val (.int ov), .val (.int (4 : Int32)), .val (.int (3 : Int32))] []))
  refine hG _ (T10.setTop (mkF m 96 #[.val (.int cp), .val (.ref a2), .val (.int ov), .val (.int (4 : Int32)), .val (.int (4 : Int32))] [(.int (4 : Int32))])) (fun t₀ k₀ => ?_) ?_
  · show Steps p.tables e below (T10.setTop (mkF m 89 #[.val (.int cp), .val (.ref a2), .val (.int ov), .val (.int (4 : Int32)), .val (.int (3 : Int32))] [])) t₀
    refine XS.iinc X10.here hx rfl (hb hby d1_89) rfl (l' := #[.val (.int cp), .val (.ref a2), .val (.int ov), .val (.int (4 : Int32)), .val (.int (4 : Int32))]) rfl ?_
    show Steps p.tables e below (T10.setTop (mkF m 92 #[.val (.int cp), .val (.ref a2), .val (.int ov), .val (.int (4 : Int32)), .val (.int (4 : Int32))] [])) t₀
    refine XS.goto X10.here hx rfl (pc0 := 92) (pc' := 58) rfl (hb hby d1_92) (by decide) (by decide) ?_
    show Steps p.tables e below (T10.setTop (mkF m 58 #[.val (.int cp), .val (.ref a2), .val (.int ov), .val (.int (4 : Int32)), .val (.int (4 : Int32))] [])) t₀
    refine XS.iload X10.here hx rfl (hb hby d1_58) rfl ?_
    show Steps p.tables e below (T10.setTop (mkF m 60 #[.val (.int cp), .val (.ref a2), .val (.int ov), .val (.int (4 : Int32)), .val (.int (4 : Int32))] [(.int (4 : Int32))])) t₀
    refine XS.iloadN X10.here hx rfl (hb hby d1_60) rfl ?_
    show Steps p.tables e below (T10.setTop (mkF m 61 #[.val (.int cp), .val (.ref a2), .val (.int ov), .val (.int (4 : Int32)), .val (.int (4 : Int32))] [(.int (4 : Int32)), (.int (4 : Int32))])) t₀
    refine XS.icmpYes X10.here hx rfl (pc0 := 61) (pc' := 95) rfl (hb hby d1_61) rfl (flt (by decide : ¬ ((4 : Int32) < (4 : Int32)))).2.1 (by decide) (by decide) ?_
    show Steps p.tables e below (T10.setTop (mkF m 95 #[.val (.int cp), .val (.ref a2), .val (.int ov), .val (.int (4 : Int32)), .val (.int (4 : Int32))] [])) t₀
    refine XS.iloadN X10.here hx rfl (hb hby d1_95) rfl ?_
    exact k₀
  refine hF _ T10 _ _ _ (some (.int (4 : Int32))) _ X10 e10 (fun h => by rw [hrt] at h; cases h) (by decide) (by decide) ?_ (fun fs hr => own_retI X10 hx hrt (hb hby d1_96) hr)
  exact ⟨_, rfl, N10, k_x10, OB10, ((rs3 _ (by omega)).trans ((rs2 _ (by omega)).trans ((rs1 _ (by omega)).trans (at0)))), ((rs3 _ (by omega)).trans ((rs2 _ (by omega)).trans (at1))), ((rs3 _ (by omega)).trans (at2)), (at3), fun i hi => (rs3 i (by omega)).trans ((rs2 i (by omega)).trans ((rs1 i (by omega)).trans ((rs0 i (by omega)).trans (rfl))))⟩
theorem d2_0 : decode method_2_code 0 = .ok (.iload_n 1, 1) := by decide +kernel
theorem d2_1 : decode method_2_code 1 = .ok (.iload_n 2, 1) := by decide +kernel
theorem d2_2 : decode method_2_code 2 = .ok (.if_icmp .lt 10, 3) := by decide +kernel
theorem d2_5 : decode method_2_code 5 = .ok (.iload_n 1, 1) := by decide +kernel
theorem d2_6 : decode method_2_code 6 = .ok (.iload_n 2, 1) := by decide +kernel
theorem d2_7 : decode method_2_code 7 = .ok (.iload_n 3, 1) := by decide +kernel
theorem d2_8 : decode method_2_code 8 = .ok (.iadd, 1) := by decide +kernel
theorem d2_9 : decode method_2_code 9 = .ok (.if_icmp .lt 17, 3) := by decide +kernel
theorem d2_12 : decode method_2_code 12 = .ok (.aload_n 0, 1) := by decide +kernel
theorem d2_13 : decode method_2_code 13 = .ok (.iload_n 1, 1) := by decide +kernel
theorem d2_14 : decode method_2_code 14 = .ok (.baload, 1) := by decide +kernel
theorem d2_15 : decode method_2_code 15 = .ok (.iload 4, 2) := by decide +kernel
theorem d2_17 : decode method_2_code 17 = .ok (.if_icmp .ne 7, 3) := by decide +kernel
theorem d2_20 : decode method_2_code 20 = .ok (.iconst 1, 1) := by decide +kernel
theorem d2_21 : decode method_2_code 21 = .ok (.goto 4, 3) := by decide +kernel
theorem d2_24 : decode method_2_code 24 = .ok (.iconst 0, 1) := by decide +kernel
theorem d2_25 : decode method_2_code 25 = .ok (.ireturn, 1) := by decide +kernel
theorem d2_26 : decode method_2_code 26 = .ok (.iconst 1, 1) := by decide +kernel
theorem d2_27 : decode method_2_code 27 = .ok (.ireturn, 1) := by decide +kernel
theorem pn_2 : plainFor (⟨"com/example/opledger/opledger/Utf8EncodePinLaw", "kept", "([BIIIB)Z"⟩ : MethodName) = true := plainFor_of_name (by first | (simp [plainName, overriddenIn]; done) | decide +kernel)
theorem ef_rmK (m : MethodId) (x0 : Addr) (x1 : Int32) (x2 : Int32) (x3 : Int32) (x4 : Int32) : entryFrame m #[(.ref x0), (.int x1), (.int x2), (.int x3), (.int x4)] 5 = mkF m 0 #[.val (.ref x0), .val (.int x1), .val (.int x2), .val (.int x3), .val (.int x4)] [] := by first | (simp [entryFrame, mkF, argsToLocals, Value.category]; done) | rfl
def Q_rmK (Z : State) (a1 : Addr) (i ov nv fb : Int32) (f : Nat → Int32) (h0 : Heap) (n0 : Nat) (v : Option Value) (h : Heap) (L : List Loc) : Prop := v = some (.int (1 : Int32)) ∧ Fr n0 L ∧ h = h0
set_option maxRecDepth 65536 in
set_option maxHeartbeats 40000000 in
theorem rmK (l : Launch) (Z : State) (a0 : Array Value) (hw : ∀ d ∈ tables_1, d.before a0 Z = true) (ws : List Jvm.Cond) (a1 : Addr) (i ov nv fb : Int32) (f : Nat → Int32) (h0 : Heap) (n0 : Nat) (Z0 : n0 ≤ h0.size) (OB : OwnB Z h0 a1 f) (hi0 : 0 ≤ i.toInt) (hi1 : i.toInt < 8) (hk : (i < ov ∨ ¬ i < (ov + nv)) → f i.toNatClampNeg = fb) :
    MetFree l (⟨"com/example/opledger/opledger/Utf8EncodePinLaw", "kept", "([BIIIB)Z"⟩ : MethodName) (head1 (Jvm.Cond.code (⟨"com/example/opledger/opledger/Utf8EncodePinLaw", "kept", "([BIIIB)Z"⟩ : MethodName) method_2_code 5 (some .boolean) :: ws) ({ frames := 0, cells := 0, slots := 0, locals := 0 } : Room)) (fun a U => a = #[(.ref a1), (.int i), (.int ov), (.int nv), (.int fb)] ∧ Z.Warmed39 U.vm ∧ U.heap = h0) (fun _ _ _ _ _ => True) (fun _ U o U' => ∃ v L, o = .returned v ∧ Q_rmK Z a1 i ov nv fb f h0 n0 v U'.heap L ∧ FrameEnd U o U' L ({ frames := 0, cells := 0, slots := 0, locals := 0 } : Room).cells ({ frames := 0, cells := 0, slots := 0, locals := 0 } : Room).slots) := by
  refine own_body (Q := fun v h L => Q_rmK Z a1 i ov nv fb f h0 n0 v h L) pn_2 ?_
  intro p e s m below meth c s₁ G X0 hx hZ hby hml hown hnm hrt e0 hG hF
  have hown : s.vm.findClass "com/example/opledger/opledger/Utf8EncodePinLaw" = some m.cls := hown
  have N0 := Fr.nil n0
  rw [ef_rmK m a1 i ov nv fb]
  show G (s₁.setTop (mkF m 0 #[.val (.ref a1), .val (.int i), .val (.int ov), .val (.int nv), .val (.int fb)] []))
  refine hG _ (s₁.setTop (mkF m 2 #[.val (.ref a1), .val (.int i), .val (.int ov), .val (.int nv), .val (.int fb)] [(.int ov), (.int i)])) (fun t₀ k₀ => ?_) ?_
  · show Steps p.tables e below (s₁.setTop (mkF m 0 #[.val (.ref a1), .val (.int i), .val (.int ov), .val (.int nv), .val (.int fb)] [])) t₀
    refine XS.iloadN X0.here hx rfl (hb hby d2_0) rfl ?_
    show Steps p.tables e below (s₁.setTop (mkF m 1 #[.val (.ref a1), .val (.int i), .val (.int ov), .val (.int nv), .val (.int fb)] [(.int i)])) t₀
    refine XS.iloadN X0.here hx rfl (hb hby d2_1) rfl ?_
    exact k₀
  by_cases hc2 : i < ov
  ·
    refine hG _ (s₁.setTop (mkF m 14 #[.val (.ref a1), .val (.int i), .val (.int ov), .val (.int nv), .val (.int fb)] [(.int i), (.ref a1)])) (fun t₀ k₀ => ?_) ?_
    · show Steps p.tables e below (s₁.setTop (mkF m 2 #[.val (.ref a1), .val (.int i), .val (.int ov), .val (.int nv), .val (.int fb)] [(.int ov), (.int i)])) t₀
      refine XS.icmpYes X0.here hx rfl (pc0 := 2) (pc' := 12) rfl (hb hby d2_2) rfl (tlt hc2).1 (by decide) (by decide) ?_
      show Steps p.tables e below (s₁.setTop (mkF m 12 #[.val (.ref a1), .val (.int i), .val (.int ov), .val (.int nv), .val (.int fb)] [])) t₀
      refine XS.aloadN X0.here hx rfl (hb hby d2_12) rfl rfl ?_
      show Steps p.tables e below (s₁.setTop (mkF m 13 #[.val (.ref a1), .val (.int i), .val (.int ov), .val (.int nv), .val (.int fb)] [(.ref a1)])) t₀
      refine XS.iloadN X0.here hx rfl (hb hby d2_13) rfl ?_
      exact k₀
    obtain ⟨cl, Ar, sz, Hf⟩ := OB
    have hin := own_inb (j := i) sz hi0 hi1
    have hat : cl.slots[i.toNatClampNeg]? = some (.int (f i.toNatClampNeg)) := Hf _ (by have q := own_nat hi0; omega)
    refine hG _ (s₁.setTop (mkF m 25 #[.val (.ref a1), .val (.int i), .val (.int ov), .val (.int nv), .val (.int fb)] [(.int (1 : Int32))])) (fun t₀ k₀ => ?_) ?_
    · show Steps p.tables e below (s₁.setTop (mkF m 14 #[.val (.ref a1), .val (.int i), .val (.int ov), .val (.int nv), .val (.int fb)] [(.int i), (.ref a1)])) t₀
      refine X0.baloadBytes hx (j := i) (v := .int (f i.toNatClampNeg)) (by rw [e0]; exact Ar.1) (State.isArrayOf_alike hZ.alike Ar.2.1) Ar.2.2 hin hat (g := (mkF m 14 #[.val (.ref a1), .val (.int i), .val (.int ov), .val (.int nv), .val (.int fb)] [(.int i), (.ref a1)])) rfl rfl (hb hby d2_14) _ ?_
      show Steps p.tables e below (s₁.setTop (mkF m 15 #[.val (.ref a1), .val (.int i), .val (.int ov), .val (.int nv), .val (.int fb)] [(.int (f i.toNatClampNeg))])) t₀
      refine XS.iload X0.here hx rfl (hb hby d2_15) rfl ?_
      show Steps p.tables e below (s₁.setTop (mkF m 17 #[.val (.ref a1), .val (.int i), .val (.int ov), .val (.int nv), .val (.int fb)] [(.int fb), (.int (f i.toNatClampNeg))])) t₀
      refine XS.icmpNo X0.here hx rfl (hb hby d2_17) rfl (teq (hk (Or.inl hc2))).2 ?_
      show Steps p.tables e below (s₁.setTop (mkF m 20 #[.val (.ref a1), .val (.int i), .val (.int ov), .val (.int nv), .val (.int fb)] [])) t₀
      refine XS.iconst X0.here hx rfl (hb hby d2_20) ?_
      show Steps p.tables e below (s₁.setTop (mkF m 21 #[.val (.ref a1), .val (.int i), .val (.int ov), .val (.int nv), .val (.int fb)] [(.int (1 : Int32))])) t₀
      refine XS.goto X0.here hx rfl (pc0 := 21) (pc' := 25) rfl (hb hby d2_21) (by decide) (by decide) ?_
      exact k₀
    refine hF _ s₁ _ _ _ (some (.int (1 : Int32))) _ X0 e0 (fun h => by rw [hrt] at h; cases h) (by decide) (by decide) ?_ (fun fs hr => retN X0 hx (t := .boolean) hrt (by simp) (hb hby d2_25) hr)
    exact ⟨rfl, N0, rfl⟩
  ·
    refine hG _ (s₁.setTop (mkF m 9 #[.val (.ref a1), .val (.int i), .val (.int ov), .val (.int nv), .val (.int fb)] [(.int (ov + nv)), (.int i)])) (fun t₀ k₀ => ?_) ?_
    · show Steps p.tables e below (s₁.setTop (mkF m 2 #[.val (.ref a1), .val (.int i), .val (.int ov), .val (.int nv), .val (.int fb)] [(.int ov), (.int i)])) t₀
      refine XS.icmpNo X0.here hx rfl (hb hby d2_2) rfl (flt hc2).1 ?_
      show Steps p.tables e below (s₁.setTop (mkF m 5 #[.val (.ref a1), .val (.int i), .val (.int ov), .val (.int nv), .val (.int fb)] [])) t₀
      refine XS.iloadN X0.here hx rfl (hb hby d2_5) rfl ?_
      show Steps p.tables e below (s₁.setTop (mkF m 6 #[.val (.ref a1), .val (.int i), .val (.int ov), .val (.int nv), .val (.int fb)] [(.int i)])) t₀
      refine XS.iloadN X0.here hx rfl (hb hby d2_6) rfl ?_
      show Steps p.tables e below (s₁.setTop (mkF m 7 #[.val (.ref a1), .val (.int i), .val (.int ov), .val (.int nv), .val (.int fb)] [(.int ov), (.int i)])) t₀
      refine XS.iloadN X0.here hx rfl (hb hby d2_7) rfl ?_
      show Steps p.tables e below (s₁.setTop (mkF m 8 #[.val (.ref a1), .val (.int i), .val (.int ov), .val (.int nv), .val (.int fb)] [(.int nv), (.int ov), (.int i)])) t₀
      refine XS.iadd X0.here hx rfl (hb hby d2_8) rfl ?_
      exact k₀
    by_cases hc9 : i < (ov + nv)
    ·
      refine hG _ (s₁.setTop (mkF m 27 #[.val (.ref a1), .val (.int i), .val (.int ov), .val (.int nv), .val (.int fb)] [(.int (1 : Int32))])) (fun t₀ k₀ => ?_) ?_
      · show Steps p.tables e below (s₁.setTop (mkF m 9 #[.val (.ref a1), .val (.int i), .val (.int ov), .val (.int nv), .val (.int fb)] [(.int (ov + nv)), (.int i)])) t₀
        refine XS.icmpYes X0.here hx rfl (pc0 := 9) (pc' := 26) rfl (hb hby d2_9) rfl (tlt hc9).1 (by decide) (by decide) ?_
        show Steps p.tables e below (s₁.setTop (mkF m 26 #[.val (.ref a1), .val (.int i), .val (.int ov), .val (.int nv), .val (.int fb)] [])) t₀
        refine XS.iconst X0.here hx rfl (hb hby d2_26) ?_
        exact k₀
      refine hF _ s₁ _ _ _ (some (.int (1 : Int32))) _ X0 e0 (fun h => by rw [hrt] at h; cases h) (by decide) (by decide) ?_ (fun fs hr => retN X0 hx (t := .boolean) hrt (by simp) (hb hby d2_27) hr)
      exact ⟨rfl, N0, rfl⟩
    ·
      refine hG _ (s₁.setTop (mkF m 14 #[.val (.ref a1), .val (.int i), .val (.int ov), .val (.int nv), .val (.int fb)] [(.int i), (.ref a1)])) (fun t₀ k₀ => ?_) ?_
      · show Steps p.tables e below (s₁.setTop (mkF m 9 #[.val (.ref a1), .val (.int i), .val (.int ov), .val (.int nv), .val (.int fb)] [(.int (ov + nv)), (.int i)])) t₀
        refine XS.icmpNo X0.here hx rfl (hb hby d2_9) rfl (flt hc9).1 ?_
        show Steps p.tables e below (s₁.setTop (mkF m 12 #[.val (.ref a1), .val (.int i), .val (.int ov), .val (.int nv), .val (.int fb)] [])) t₀
        refine XS.aloadN X0.here hx rfl (hb hby d2_12) rfl rfl ?_
        show Steps p.tables e below (s₁.setTop (mkF m 13 #[.val (.ref a1), .val (.int i), .val (.int ov), .val (.int nv), .val (.int fb)] [(.ref a1)])) t₀
        refine XS.iloadN X0.here hx rfl (hb hby d2_13) rfl ?_
        exact k₀
      obtain ⟨cl, Ar, sz, Hf⟩ := OB
      have hin := own_inb (j := i) sz hi0 hi1
      have hat : cl.slots[i.toNatClampNeg]? = some (.int (f i.toNatClampNeg)) := Hf _ (by have q := own_nat hi0; omega)
      refine hG _ (s₁.setTop (mkF m 25 #[.val (.ref a1), .val (.int i), .val (.int ov), .val (.int nv), .val (.int fb)] [(.int (1 : Int32))])) (fun t₀ k₀ => ?_) ?_
      · show Steps p.tables e below (s₁.setTop (mkF m 14 #[.val (.ref a1), .val (.int i), .val (.int ov), .val (.int nv), .val (.int fb)] [(.int i), (.ref a1)])) t₀
        refine X0.baloadBytes hx (j := i) (v := .int (f i.toNatClampNeg)) (by rw [e0]; exact Ar.1) (State.isArrayOf_alike hZ.alike Ar.2.1) Ar.2.2 hin hat (g := (mkF m 14 #[.val (.ref a1), .val (.int i), .val (.int ov), .val (.int nv), .val (.int fb)] [(.int i), (.ref a1)])) rfl rfl (hb hby d2_14) _ ?_
        show Steps p.tables e below (s₁.setTop (mkF m 15 #[.val (.ref a1), .val (.int i), .val (.int ov), .val (.int nv), .val (.int fb)] [(.int (f i.toNatClampNeg))])) t₀
        refine XS.iload X0.here hx rfl (hb hby d2_15) rfl ?_
        show Steps p.tables e below (s₁.setTop (mkF m 17 #[.val (.ref a1), .val (.int i), .val (.int ov), .val (.int nv), .val (.int fb)] [(.int fb), (.int (f i.toNatClampNeg))])) t₀
        refine XS.icmpNo X0.here hx rfl (hb hby d2_17) rfl (teq (hk (Or.inr hc9))).2 ?_
        show Steps p.tables e below (s₁.setTop (mkF m 20 #[.val (.ref a1), .val (.int i), .val (.int ov), .val (.int nv), .val (.int fb)] [])) t₀
        refine XS.iconst X0.here hx rfl (hb hby d2_20) ?_
        show Steps p.tables e below (s₁.setTop (mkF m 21 #[.val (.ref a1), .val (.int i), .val (.int ov), .val (.int nv), .val (.int fb)] [(.int (1 : Int32))])) t₀
        refine XS.goto X0.here hx rfl (pc0 := 21) (pc' := 25) rfl (hb hby d2_21) (by decide) (by decide) ?_
        exact k₀
      refine hF _ s₁ _ _ _ (some (.int (1 : Int32))) _ X0 e0 (fun h => by rw [hrt] at h; cases h) (by decide) (by decide) ?_ (fun fs hr => retN X0 hx (t := .boolean) hrt (by simp) (hb hby d2_25) hr)
      exact ⟨rfl, N0, rfl⟩
theorem pn_0 : plainFor (⟨"com/example/opledger/opledger/Utf8EncodePinLaw", "law", "(IIII)Z"⟩ : MethodName) = true := plainFor_of_name (by first | (simp [plainName, overriddenIn]; done) | decide +kernel)
theorem ef_rm0 (m : MethodId) (x0 : Int32) (x1 : Int32) (x2 : Int32) (x3 : Int32) : entryFrame m #[(.int x0), (.int x1), (.int x2), (.int x3)] maxLocals = mkF m 0 #[.val (.int x0), .val (.int x1), .val (.int x2), .val (.int x3), .unset, .unset, .unset, .unset, .unset, .unset, .unset, .unset, .unset, .unset, .unset, .unset, .unset, .unset] [] := by first | (simp [entryFrame, mkF, argsToLocals, Value.category, maxLocals]; done) | rfl
def Q_rm0 (Z : State) (p1 p2 p3 p4 : Int32) (wL : Addr) (kL : ClassId) (h0 : Heap) (n0 : Nat) (v : Option Value) (h : Heap) (L : List Loc) : Prop := v = some (.int (1 : Int32)) ∧ Fr n0 L
set_option maxRecDepth 65536 in
set_option maxHeartbeats 40000000 in
theorem rm0 (l : Launch) (Z : State) (a0 : Array Value) (hw : ∀ d ∈ tables_1, d.before a0 Z = true) (ws : List Jvm.Cond) (p1 p2 p3 p4 : Int32) (wL : Addr) (kL : ClassId) (h0 : Heap) (n0 : Nat) (Z0 : n0 ≤ h0.size) (O0 : Old Z n0 h0) (S_LEAD : Sta Z Z.heap "com/example/opledger/opledger/Utf8" "LEAD_BITS" "[I" (.ref wL)) (VL : Arv Z Z.heap wL kL .int (5 : Int32) [(.int (0 : Int32)), (.int (0 : Int32)), (.int (192 : Int32)), (.int (224 : Int32)), (.int (240 : Int32))] (.int (0 : Int32))) :
    MetFree l x (head1 (Jvm.Cond.code x code maxLocals ret :: ws) room_1) (fun a U => a = #[(.int p1), (.int p2), (.int p3), (.int p4)] ∧ Z.Warmed39 U.vm ∧ U.heap = h0) (fun _ _ _ _ _ => True) (fun _ U o U' => ∃ v L, o = .returned v ∧ Q_rm0 Z p1 p2 p3 p4 wL kL h0 n0 v U'.heap L ∧ FrameEnd U o U' L room_1.cells room_1.slots) := by
  refine own_body (Q := fun v h L => Q_rm0 Z p1 p2 p3 p4 wL kL h0 n0 v h L) pn_0 ?_
  intro p e s m below meth c s₁ G X0 hx hZ hby hml hown hnm hrt e0 hG hF
  have hml : c.maxLocals = 18 := hml
  have hrt : meth.sig.returnType = some .boolean := hrt
  have hown : s.vm.findClass "com/example/opledger/opledger/Utf8EncodePinLaw" = some m.cls := hown
  have N0 := Fr.nil n0
  rw [ef_rm0 m p1 p2 p3 p4]
  show G (s₁.setTop (mkF m 0 #[.val (.int p1), .val (.int p2), .val (.int p3), .val (.int p4), .unset, .unset, .unset, .unset, .unset, .unset, .unset, .unset, .unset, .unset, .unset, .unset, .unset, .unset] []))
  have tlA : ∀  (cp want : Int32) (hW : OwnW cp want), G (s₁.setTop (mkF m 102 #[.val (.int p1), .val (.int p2), .val (.int p3), .val (.int p4), .val (.int (p1 &&& (3 : Int32))), .val (.int (p2 &&& (2147483647 : Int32))), .val (.int cp), .val (.int want), .unset, .unset, .unset, .unset, .unset, .unset, .unset, .unset, .unset, .unset] [])) := by
    intro cp want hW
    refine hG _ (s₁.setTop (mkF m 111 #[.val (.int p1), .val (.int p2), .val (.int p3), .val (.int p4), .val (.int (p1 &&& (3 : Int32))), .val (.int (p2 &&& (2147483647 : Int32))), .val (.int cp), .val (.int want), .val (.int (p3 &&& (3 : Int32))), .val (.int (p4.toInt8.toInt32)), .unset, .unset, .unset, .unset, .unset, .unset, .unset, .unset] [])) (fun t₀ k₀ => ?_) ?_
    · show Steps p.tables e below (s₁.setTop (mkF m 102 #[.val (.int p1), .val (.int p2), .val (.int p3), .val (.int p4), .val (.int (p1 &&& (3 : Int32))), .val (.int (p2 &&& (2147483647 : Int32))), .val (.int cp), .val (.int want), .unset, .unset, .unset, .unset, .unset, .unset, .unset, .unset, .unset, .unset] [])) t₀
      refine XS.iloadN X0.here hx rfl (hb hby at_102) rfl ?_
      show Steps p.tables e below (s₁.setTop (mkF m 103 #[.val (.int p1), .val (.int p2), .val (.int p3), .val (.int p4), .val (.int (p1 &&& (3 : Int32))), .val (.int (p2 &&& (2147483647 : Int32))), .val (.int cp), .val (.int want), .unset, .unset, .unset, .unset, .unset, .unset, .unset, .unset, .unset, .unset] [(.int p3)])) t₀
      refine XS.iconst X0.here hx rfl (hb hby at_103) ?_
      show Steps p.tables e below (s₁.setTop (mkF m 104 #[.val (.int p1), .val (.int p2), .val (.int p3), .val (.int p4), .val (.int (p1 &&& (3 : Int32))), .val (.int (p2 &&& (2147483647 : Int32))), .val (.int cp), .val (.int want), .unset, .unset, .unset, .unset, .unset, .unset, .unset, .unset, .unset, .unset] [(.int (3 : Int32)), (.int p3)])) t₀
      refine XS.iand X0.here hx rfl (hb hby at_104) rfl ?_
      show Steps p.tables e below (s₁.setTop (mkF m 105 #[.val (.int p1), .val (.int p2), .val (.int p3), .val (.int p4), .val (.int (p1 &&& (3 : Int32))), .val (.int (p2 &&& (2147483647 : Int32))), .val (.int cp), .val (.int want), .unset, .unset, .unset, .unset, .unset, .unset, .unset, .unset, .unset, .unset] [(.int (p3 &&& (3 : Int32)))])) t₀
      refine XS.istore X0.here hx rfl (hb hby at_105) rfl (l' := #[.val (.int p1), .val (.int p2), .val (.int p3), .val (.int p4), .val (.int (p1 &&& (3 : Int32))), .val (.int (p2 &&& (2147483647 : Int32))), .val (.int cp), .val (.int want), .val (.int (p3 &&& (3 : Int32))), .unset, .unset, .unset, .unset, .unset, .unset, .unset, .unset, .unset]) rfl ?_
      show Steps p.tables e below (s₁.setTop (mkF m 107 #[.val (.int p1), .val (.int p2), .val (.int p3), .val (.int p4), .val (.int (p1 &&& (3 : Int32))), .val (.int (p2 &&& (2147483647 : Int32))), .val (.int cp), .val (.int want), .val (.int (p3 &&& (3 : Int32))), .unset, .unset, .unset, .unset, .unset, .unset, .unset, .unset, .unset] [])) t₀
      refine XS.iloadN X0.here hx rfl (hb hby at_107) rfl ?_
      show Steps p.tables e below (s₁.setTop (mkF m 108 #[.val (.int p1), .val (.int p2), .val (.int p3), .val (.int p4), .val (.int (p1 &&& (3 : Int32))), .val (.int (p2 &&& (2147483647 : Int32))), .val (.int cp), .val (.int want), .val (.int (p3 &&& (3 : Int32))), .unset, .unset, .unset, .unset, .unset, .unset, .unset, .unset, .unset] [(.int p4)])) t₀
      refine XS.i2b X0.here hx rfl (hb hby at_108) rfl ?_
      show Steps p.tables e below (s₁.setTop (mkF m 109 #[.val (.int p1), .val (.int p2), .val (.int p3), .val (.int p4), .val (.int (p1 &&& (3 : Int32))), .val (.int (p2 &&& (2147483647 : Int32))), .val (.int cp), .val (.int want), .val (.int (p3 &&& (3 : Int32))), .unset, .unset, .unset, .unset, .unset, .unset, .unset, .unset, .unset] [(.int (p4.toInt8.toInt32))])) t₀
      refine XS.istore X0.here hx rfl (hb hby at_109) rfl (l' := #[.val (.int p1), .val (.int p2), .val (.int p3), .val (.int p4), .val (.int (p1 &&& (3 : Int32))), .val (.int (p2 &&& (2147483647 : Int32))), .val (.int cp), .val (.int want), .val (.int (p3 &&& (3 : Int32))), .val (.int (p4.toInt8.toInt32)), .unset, .unset, .unset, .unset, .unset, .unset, .unset, .unset]) rfl ?_
      exact k₀
    obtain ⟨ov, hov⟩ : ∃ z, z = (p3 &&& (3 : Int32)) := ⟨_, rfl⟩
    rw [← hov]
    show G (s₁.setTop (mkF m 111 #[.val (.int p1), .val (.int p2), .val (.int p3), .val (.int p4), .val (.int (p1 &&& (3 : Int32))), .val (.int (p2 &&& (2147483647 : Int32))), .val (.int cp), .val (.int want), .val (.int ov), .val (.int (p4.toInt8.toInt32)), .unset, .unset, .unset, .unset, .unset, .unset, .unset, .unset] []))
    obtain ⟨fb, hfb⟩ : ∃ z, z = (p4.toInt8.toInt32) := ⟨_, rfl⟩
    rw [← hfb]
    show G (s₁.setTop (mkF m 111 #[.val (.int p1), .val (.int p2), .val (.int p3), .val (.int p4), .val (.int (p1 &&& (3 : Int32))), .val (.int (p2 &&& (2147483647 : Int32))), .val (.int cp), .val (.int want), .val (.int ov), .val (.int fb), .unset, .unset, .unset, .unset, .unset, .unset, .unset, .unset] []))
    have ho1 : 0 ≤ ov.toInt := by have m := c_mask p3 (3 : Int32) 2 (by decide) (by decide); rw [hov]; omega
    have ho2 : ov.toInt ≤ 3 := by have m := c_mask p3 (3 : Int32) 2 (by decide) (by decide); rw [hov]; omega
    have hfb8 : fb.toInt8.toInt32 = fb := by rw [hfb]; exact own_i2b _
    refine hG _ (s₁.setTop (mkF m 113 #[.val (.int p1), .val (.int p2), .val (.int p3), .val (.int p4), .val (.int (p1 &&& (3 : Int32))), .val (.int (p2 &&& (2147483647 : Int32))), .val (.int cp), .val (.int want), .val (.int ov), .val (.int fb), .unset, .unset, .unset, .unset, .unset, .unset, .unset, .unset] [(.int (8 : Int32))])) (fun t₀ k₀ => ?_) ?_
    · show Steps p.tables e below (s₁.setTop (mkF m 111 #[.val (.int p1), .val (.int p2), .val (.int p3), .val (.int p4), .val (.int (p1 &&& (3 : Int32))), .val (.int (p2 &&& (2147483647 : Int32))), .val (.int cp), .val (.int want), .val (.int ov), .val (.int fb), .unset, .unset, .unset, .unset, .unset, .unset, .unset, .unset] [])) t₀
      refine XS.bipush X0.here hx rfl (hb hby at_111) ?_
      exact k₀
    obtain ⟨T1, h1, k1, X1, e1, E1, A1, st1⟩ := newP X0 hx hZ (hw _ (List.mem_of_getElem? (i := 1) rfl)) e0 (g := (mkF m 113 #[.val (.int p1), .val (.int p2), .val (.int p3), .val (.int p4), .val (.int (p1 &&& (3 : Int32))), .val (.int (p2 &&& (2147483647 : Int32))), .val (.int cp), .val (.int want), .val (.int ov), .val (.int fb), .unset, .unset, .unset, .unset, .unset, .unset, .unset, .unset] [(.int (8 : Int32))])) rfl (hb hby at_113) rfl (by decide) (cap := 8) (by decide) (by decide) (by decide) (by decide)
    obtain ⟨ob1, g1⟩ : ∃ z, z = h0.size := ⟨_, rfl⟩
    rw [← g1] at A1 st1
    have g_ob1 : n0 ≤ ob1 := Nat.le_trans Z0 (Nat.le_of_eq g1.symm)
    have z_1 : n0 ≤ h1.size := Nat.le_trans Z0 E1.1
    have o_x1 := O0.ext E1
    have V_ob1 : Arv Z h1 ob1 k1 .byte (8 : Int32) [(.int (0 : Int32)), (.int (0 : Int32)), (.int (0 : Int32)), (.int (0 : Int32)), (.int (0 : Int32)), (.int (0 : Int32)), (.int (0 : Int32)), (.int (0 : Int32))] (.int (0 : Int32)) := (Arv.new A1 (by decide)).pad (pad_rep [] (.int (0 : Int32)) 8)
    refine hG _ _ (fun t₀ k₀ => st1 _ k₀) ?_
    show G (T1.setTop (mkF m 115 #[.val (.int p1), .val (.int p2), .val (.int p3), .val (.int p4), .val (.int (p1 &&& (3 : Int32))), .val (.int (p2 &&& (2147483647 : Int32))), .val (.int cp), .val (.int want), .val (.int ov), .val (.int fb), .unset, .unset, .unset, .unset, .unset, .unset, .unset, .unset] [(.ref ob1)]))
    refine hG _ (T1.setTop (mkF m 122 #[.val (.int p1), .val (.int p2), .val (.int p3), .val (.int p4), .val (.int (p1 &&& (3 : Int32))), .val (.int (p2 &&& (2147483647 : Int32))), .val (.int cp), .val (.int want), .val (.int ov), .val (.int fb), .val (.ref ob1), .unset, .unset, .unset, .unset, .unset, .unset, .unset] [(.int fb), (.int (0 : Int32)), (.ref ob1)])) (fun t₀ k₀ => ?_) ?_
    · show Steps p.tables e below (T1.setTop (mkF m 115 #[.val (.int p1), .val (.int p2), .val (.int p3), .val (.int p4), .val (.int (p1 &&& (3 : Int32))), .val (.int (p2 &&& (2147483647 : Int32))), .val (.int cp), .val (.int want), .val (.int ov), .val (.int fb), .unset, .unset, .unset, .unset, .unset, .unset, .unset, .unset] [(.ref ob1)])) t₀
      refine XS.astore X1.here hx rfl (hb hby at_115) rfl rfl (l' := #[.val (.int p1), .val (.int p2), .val (.int p3), .val (.int p4), .val (.int (p1 &&& (3 : Int32))), .val (.int (p2 &&& (2147483647 : Int32))), .val (.int cp), .val (.int want), .val (.int ov), .val (.int fb), .val (.ref ob1), .unset, .unset, .unset, .unset, .unset, .unset, .unset]) rfl ?_
      show Steps p.tables e below (T1.setTop (mkF m 117 #[.val (.int p1), .val (.int p2), .val (.int p3), .val (.int p4), .val (.int (p1 &&& (3 : Int32))), .val (.int (p2 &&& (2147483647 : Int32))), .val (.int cp), .val (.int want), .val (.int ov), .val (.int fb), .val (.ref ob1), .unset, .unset, .unset, .unset, .unset, .unset, .unset] [])) t₀
      refine XS.aload X1.here hx rfl (hb hby at_117) rfl rfl ?_
      show Steps p.tables e below (T1.setTop (mkF m 119 #[.val (.int p1), .val (.int p2), .val (.int p3), .val (.int p4), .val (.int (p1 &&& (3 : Int32))), .val (.int (p2 &&& (2147483647 : Int32))), .val (.int cp), .val (.int want), .val (.int ov), .val (.int fb), .val (.ref ob1), .unset, .unset, .unset, .unset, .unset, .unset, .unset] [(.ref ob1)])) t₀
      refine XS.iconst X1.here hx rfl (hb hby at_119) ?_
      show Steps p.tables e below (T1.setTop (mkF m 120 #[.val (.int p1), .val (.int p2), .val (.int p3), .val (.int p4), .val (.int (p1 &&& (3 : Int32))), .val (.int (p2 &&& (2147483647 : Int32))), .val (.int cp), .val (.int want), .val (.int ov), .val (.int fb), .val (.ref ob1), .unset, .unset, .unset, .unset, .unset, .unset, .unset] [(.int (0 : Int32)), (.ref ob1)])) t₀
      refine XS.iload X1.here hx rfl (hb hby at_120) rfl ?_
      exact k₀
    have ov2 := V_ob1
    obtain ⟨cl2, Ar2, q2, S2, N_2, H_2, G_2⟩ := ov2
    have hin2 : ¬ ((0 : Int32) < 0 ∨ cl2.slots.size ≤ ((0 : Int32)).toNatClampNeg) := inb_of S2 ⟨by decide, by decide⟩
    obtain ⟨T3, h3, X3, e3, W3, st3⟩ := stB X1 hx hZ e1 Ar2 (j := (0 : Int32)) hin2 (g := (mkF m 122 #[.val (.int p1), .val (.int p2), .val (.int p3), .val (.int p4), .val (.int (p1 &&& (3 : Int32))), .val (.int (p2 &&& (2147483647 : Int32))), .val (.int cp), .val (.int want), .val (.int ov), .val (.int fb), .val (.ref ob1), .unset, .unset, .unset, .unset, .unset, .unset, .unset] [(.int fb), (.int (0 : Int32)), (.ref ob1)])) rfl rfl (hb hby at_122)
    refine hG _ _ (fun t₀ k₀ => st3 _ k₀) ?_
    have N3 := Fr.snoc X3 N0 g_ob1
    have o_x3 := o_x1.wr W3 g_ob1
    have z_3 : n0 ≤ h3.size := Nat.le_trans z_1 (Keep.of_wr W3).1
    have V3 : Arv Z h3 ob1 k1 .byte (8 : Int32) [(.int (fb.toInt8.toInt32)), (.int (0 : Int32)), (.int (0 : Int32)), (.int (0 : Int32)), (.int (0 : Int32)), (.int (0 : Int32)), (.int (0 : Int32)), (.int (0 : Int32))] (.int (0 : Int32)) := Arv.set Ar2 q2 S2 N_2 H_2 G_2 (fits_nar_byte _) W3 0 rfl (Nat.le_of_ble_eq_true rfl)
    show G (T3.setTop (mkF m 123 #[.val (.int p1), .val (.int p2), .val (.int p3), .val (.int p4), .val (.int (p1 &&& (3 : Int32))), .val (.int (p2 &&& (2147483647 : Int32))), .val (.int cp), .val (.int want), .val (.int ov), .val (.int fb), .val (.ref ob1), .unset, .unset, .unset, .unset, .unset, .unset, .unset] []))
    refine hG _ (T3.setTop (mkF m 128 #[.val (.int p1), .val (.int p2), .val (.int p3), .val (.int p4), .val (.int (p1 &&& (3 : Int32))), .val (.int (p2 &&& (2147483647 : Int32))), .val (.int cp), .val (.int want), .val (.int ov), .val (.int fb), .val (.ref ob1), .unset, .unset, .unset, .unset, .unset, .unset, .unset] [(.int fb), (.int (1 : Int32)), (.ref ob1)])) (fun t₀ k₀ => ?_) ?_
    · show Steps p.tables e below (T3.setTop (mkF m 123 #[.val (.int p1), .val (.int p2), .val (.int p3), .val (.int p4), .val (.int (p1 &&& (3 : Int32))), .val (.int (p2 &&& (2147483647 : Int32))), .val (.int cp), .val (.int want), .val (.int ov), .val (.int fb), .val (.ref ob1), .unset, .unset, .unset, .unset, .unset, .unset, .unset] [])) t₀
      refine XS.aload X3.here hx rfl (hb hby at_123) rfl rfl ?_
      show Steps p.tables e below (T3.setTop (mkF m 125 #[.val (.int p1), .val (.int p2), .val (.int p3), .val (.int p4), .val (.int (p1 &&& (3 : Int32))), .val (.int (p2 &&& (2147483647 : Int32))), .val (.int cp), .val (.int want), .val (.int ov), .val (.int fb), .val (.ref ob1), .unset, .unset, .unset, .unset, .unset, .unset, .unset] [(.ref ob1)])) t₀
      refine XS.iconst X3.here hx rfl (hb hby at_125) ?_
      show Steps p.tables e below (T3.setTop (mkF m 126 #[.val (.int p1), .val (.int p2), .val (.int p3), .val (.int p4), .val (.int (p1 &&& (3 : Int32))), .val (.int (p2 &&& (2147483647 : Int32))), .val (.int cp), .val (.int want), .val (.int ov), .val (.int fb), .val (.ref ob1), .unset, .unset, .unset, .unset, .unset, .unset, .unset] [(.int (1 : Int32)), (.ref ob1)])) t₀
      refine XS.iload X3.here hx rfl (hb hby at_126) rfl ?_
      exact k₀
    have ov4 := V3
    obtain ⟨cl4, Ar4, q4, S4, N_4, H_4, G_4⟩ := ov4
    have hin4 : ¬ ((1 : Int32) < 0 ∨ cl4.slots.size ≤ ((1 : Int32)).toNatClampNeg) := inb_of S4 ⟨by decide, by decide⟩
    obtain ⟨T5, h5, X5, e5, W5, st5⟩ := stB X3 hx hZ e3 Ar4 (j := (1 : Int32)) hin4 (g := (mkF m 128 #[.val (.int p1), .val (.int p2), .val (.int p3), .val (.int p4), .val (.int (p1 &&& (3 : Int32))), .val (.int (p2 &&& (2147483647 : Int32))), .val (.int cp), .val (.int want), .val (.int ov), .val (.int fb), .val (.ref ob1), .unset, .unset, .unset, .unset, .unset, .unset, .unset] [(.int fb), (.int (1 : Int32)), (.ref ob1)])) rfl rfl (hb hby at_128)
    refine hG _ _ (fun t₀ k₀ => st5 _ k₀) ?_
    have N5 := Fr.snoc X5 N3 g_ob1
    have o_x5 := o_x3.wr W5 g_ob1
    have z_5 : n0 ≤ h5.size := Nat.le_trans z_3 (Keep.of_wr W5).1
    have V5 : Arv Z h5 ob1 k1 .byte (8 : Int32) [(.int (fb.toInt8.toInt32)), (.int (fb.toInt8.toInt32)), (.int (0 : Int32)), (.int (0 : Int32)), (.int (0 : Int32)), (.int (0 : Int32)), (.int (0 : Int32)), (.int (0 : Int32))] (.int (0 : Int32)) := Arv.set Ar4 q4 S4 N_4 H_4 G_4 (fits_nar_byte _) W5 1 rfl (Nat.le_of_ble_eq_true rfl)
    show G (T5.setTop (mkF m 129 #[.val (.int p1), .val (.int p2), .val (.int p3), .val (.int p4), .val (.int (p1 &&& (3 : Int32))), .val (.int (p2 &&& (2147483647 : Int32))), .val (.int cp), .val (.int want), .val (.int ov), .val (.int fb), .val (.ref ob1), .unset, .unset, .unset, .unset, .unset, .unset, .unset] []))
    refine hG _ (T5.setTop (mkF m 134 #[.val (.int p1), .val (.int p2), .val (.int p3), .val (.int p4), .val (.int (p1 &&& (3 : Int32))), .val (.int (p2 &&& (2147483647 : Int32))), .val (.int cp), .val (.int want), .val (.int ov), .val (.int fb), .val (.ref ob1), .unset, .unset, .unset, .unset, .unset, .unset, .unset] [(.int fb), (.int (2 : Int32)), (.ref ob1)])) (fun t₀ k₀ => ?_) ?_
    · show Steps p.tables e below (T5.setTop (mkF m 129 #[.val (.int p1), .val (.int p2), .val (.int p3), .val (.int p4), .val (.int (p1 &&& (3 : Int32))), .val (.int (p2 &&& (2147483647 : Int32))), .val (.int cp), .val (.int want), .val (.int ov), .val (.int fb), .val (.ref ob1), .unset, .unset, .unset, .unset, .unset, .unset, .unset] [])) t₀
      refine XS.aload X5.here hx rfl (hb hby at_129) rfl rfl ?_
      show Steps p.tables e below (T5.setTop (mkF m 131 #[.val (.int p1), .val (.int p2), .val (.int p3), .val (.int p4), .val (.int (p1 &&& (3 : Int32))), .val (.int (p2 &&& (2147483647 : Int32))), .val (.int cp), .val (.int want), .val (.int ov), .val (.int fb), .val (.ref ob1), .unset, .unset, .unset, .unset, .unset, .unset, .unset] [(.ref ob1)])) t₀
      refine XS.iconst X5.here hx rfl (hb hby at_131) ?_
      show Steps p.tables e below (T5.setTop (mkF m 132 #[.val (.int p1), .val (.int p2), .val (.int p3), .val (.int p4), .val (.int (p1 &&& (3 : Int32))), .val (.int (p2 &&& (2147483647 : Int32))), .val (.int cp), .val (.int want), .val (.int ov), .val (.int fb), .val (.ref ob1), .unset, .unset, .unset, .unset, .unset, .unset, .unset] [(.int (2 : Int32)), (.ref ob1)])) t₀
      refine XS.iload X5.here hx rfl (hb hby at_132) rfl ?_
      exact k₀
    have ov6 := V5
    obtain ⟨cl6, Ar6, q6, S6, N_6, H_6, G_6⟩ := ov6
    have hin6 : ¬ ((2 : Int32) < 0 ∨ cl6.slots.size ≤ ((2 : Int32)).toNatClampNeg) := inb_of S6 ⟨by decide, by decide⟩
    obtain ⟨T7, h7, X7, e7, W7, st7⟩ := stB X5 hx hZ e5 Ar6 (j := (2 : Int32)) hin6 (g := (mkF m 134 #[.val (.int p1), .val (.int p2), .val (.int p3), .val (.int p4), .val (.int (p1 &&& (3 : Int32))), .val (.int (p2 &&& (2147483647 : Int32))), .val (.int cp), .val (.int want), .val (.int ov), .val (.int fb), .val (.ref ob1), .unset, .unset, .unset, .unset, .unset, .unset, .unset] [(.int fb), (.int (2 : Int32)), (.ref ob1)])) rfl rfl (hb hby at_134)
    refine hG _ _ (fun t₀ k₀ => st7 _ k₀) ?_
    have N7 := Fr.snoc X7 N5 g_ob1
    have o_x7 := o_x5.wr W7 g_ob1
    have z_7 : n0 ≤ h7.size := Nat.le_trans z_5 (Keep.of_wr W7).1
    have V7 : Arv Z h7 ob1 k1 .byte (8 : Int32) [(.int (fb.toInt8.toInt32)), (.int (fb.toInt8.toInt32)), (.int (fb.toInt8.toInt32)), (.int (0 : Int32)), (.int (0 : Int32)), (.int (0 : Int32)), (.int (0 : Int32)), (.int (0 : Int32))] (.int (0 : Int32)) := Arv.set Ar6 q6 S6 N_6 H_6 G_6 (fits_nar_byte _) W7 2 rfl (Nat.le_of_ble_eq_true rfl)
    show G (T7.setTop (mkF m 135 #[.val (.int p1), .val (.int p2), .val (.int p3), .val (.int p4), .val (.int (p1 &&& (3 : Int32))), .val (.int (p2 &&& (2147483647 : Int32))), .val (.int cp), .val (.int want), .val (.int ov), .val (.int fb), .val (.ref ob1), .unset, .unset, .unset, .unset, .unset, .unset, .unset] []))
    refine hG _ (T7.setTop (mkF m 140 #[.val (.int p1), .val (.int p2), .val (.int p3), .val (.int p4), .val (.int (p1 &&& (3 : Int32))), .val (.int (p2 &&& (2147483647 : Int32))), .val (.int cp), .val (.int want), .val (.int ov), .val (.int fb), .val (.ref ob1), .unset, .unset, .unset, .unset, .unset, .unset, .unset] [(.int fb), (.int (3 : Int32)), (.ref ob1)])) (fun t₀ k₀ => ?_) ?_
    · show Steps p.tables e below (T7.setTop (mkF m 135 #[.val (.int p1), .val (.int p2), .val (.int p3), .val (.int p4), .val (.int (p1 &&& (3 : Int32))), .val (.int (p2 &&& (2147483647 : Int32))), .val (.int cp), .val (.int want), .val (.int ov), .val (.int fb), .val (.ref ob1), .unset, .unset, .unset, .unset, .unset, .unset, .unset] [])) t₀
      refine XS.aload X7.here hx rfl (hb hby at_135) rfl rfl ?_
      show Steps p.tables e below (T7.setTop (mkF m 137 #[.val (.int p1), .val (.int p2), .val (.int p3), .val (.int p4), .val (.int (p1 &&& (3 : Int32))), .val (.int (p2 &&& (2147483647 : Int32))), .val (.int cp), .val (.int want), .val (.int ov), .val (.int fb), .val (.ref ob1), .unset, .unset, .unset, .unset, .unset, .unset, .unset] [(.ref ob1)])) t₀
      refine XS.iconst X7.here hx rfl (hb hby at_137) ?_
      show Steps p.tables e below (T7.setTop (mkF m 138 #[.val (.int p1), .val (.int p2), .val (.int p3), .val (.int p4), .val (.int (p1 &&& (3 : Int32))), .val (.int (p2 &&& (2147483647 : Int32))), .val (.int cp), .val (.int want), .val (.int ov), .val (.int fb), .val (.ref ob1), .unset, .unset, .unset, .unset, .unset, .unset, .unset] [(.int (3 : Int32)), (.ref ob1)])) t₀
      refine XS.iload X7.here hx rfl (hb hby at_138) rfl ?_
      exact k₀
    have ov8 := V7
    obtain ⟨cl8, Ar8, q8, S8, N_8, H_8, G_8⟩ := ov8
    have hin8 : ¬ ((3 : Int32) < 0 ∨ cl8.slots.size ≤ ((3 : Int32)).toNatClampNeg) := inb_of S8 ⟨by decide, by decide⟩
    obtain ⟨T9, h9, X9, e9, W9, st9⟩ := stB X7 hx hZ e7 Ar8 (j := (3 : Int32)) hin8 (g := (mkF m 140 #[.val (.int p1), .val (.int p2), .val (.int p3), .val (.int p4), .val (.int (p1 &&& (3 : Int32))), .val (.int (p2 &&& (2147483647 : Int32))), .val (.int cp), .val (.int want), .val (.int ov), .val (.int fb), .val (.ref ob1), .unset, .unset, .unset, .unset, .unset, .unset, .unset] [(.int fb), (.int (3 : Int32)), (.ref ob1)])) rfl rfl (hb hby at_140)
    refine hG _ _ (fun t₀ k₀ => st9 _ k₀) ?_
    have N9 := Fr.snoc X9 N7 g_ob1
    have o_x9 := o_x7.wr W9 g_ob1
    have z_9 : n0 ≤ h9.size := Nat.le_trans z_7 (Keep.of_wr W9).1
    have V9 : Arv Z h9 ob1 k1 .byte (8 : Int32) [(.int (fb.toInt8.toInt32)), (.int (fb.toInt8.toInt32)), (.int (fb.toInt8.toInt32)), (.int (fb.toInt8.toInt32)), (.int (0 : Int32)), (.int (0 : Int32)), (.int (0 : Int32)), (.int (0 : Int32))] (.int (0 : Int32)) := Arv.set Ar8 q8 S8 N_8 H_8 G_8 (fits_nar_byte _) W9 3 rfl (Nat.le_of_ble_eq_true rfl)
    show G (T9.setTop (mkF m 141 #[.val (.int p1), .val (.int p2), .val (.int p3), .val (.int p4), .val (.int (p1 &&& (3 : Int32))), .val (.int (p2 &&& (2147483647 : Int32))), .val (.int cp), .val (.int want), .val (.int ov), .val (.int fb), .val (.ref ob1), .unset, .unset, .unset, .unset, .unset, .unset, .unset] []))
    refine hG _ (T9.setTop (mkF m 146 #[.val (.int p1), .val (.int p2), .val (.int p3), .val (.int p4), .val (.int (p1 &&& (3 : Int32))), .val (.int (p2 &&& (2147483647 : Int32))), .val (.int cp), .val (.int want), .val (.int ov), .val (.int fb), .val (.ref ob1), .unset, .unset, .unset, .unset, .unset, .unset, .unset] [(.int fb), (.int (4 : Int32)), (.ref ob1)])) (fun t₀ k₀ => ?_) ?_
    · show Steps p.tables e below (T9.setTop (mkF m 141 #[.val (.int p1), .val (.int p2), .val (.int p3), .val (.int p4), .val (.int (p1 &&& (3 : Int32))), .val (.int (p2 &&& (2147483647 : Int32))), .val (.int cp), .val (.int want), .val (.int ov), .val (.int fb), .val (.ref ob1), .unset, .unset, .unset, .unset, .unset, .unset, .unset] [])) t₀
      refine XS.aload X9.here hx rfl (hb hby at_141) rfl rfl ?_
      show Steps p.tables e below (T9.setTop (mkF m 143 #[.val (.int p1), .val (.int p2), .val (.int p3), .val (.int p4), .val (.int (p1 &&& (3 : Int32))), .val (.int (p2 &&& (2147483647 : Int32))), .val (.int cp), .val (.int want), .val (.int ov), .val (.int fb), .val (.ref ob1), .unset, .unset, .unset, .unset, .unset, .unset, .unset] [(.ref ob1)])) t₀
      refine XS.iconst X9.here hx rfl (hb hby at_143) ?_
      show Steps p.tables e below (T9.setTop (mkF m 144 #[.val (.int p1), .val (.int p2), .val (.int p3), .val (.int p4), .val (.int (p1 &&& (3 : Int32))), .val (.int (p2 &&& (2147483647 : Int32))), .val (.int cp), .val (.int want), .val (.int ov), .val (.int fb), .val (.ref ob1), .unset, .unset, .unset, .unset, .unset, .unset, .unset] [(.int (4 : Int32)), (.ref ob1)])) t₀
      refine XS.iload X9.here hx rfl (hb hby at_144) rfl ?_
      exact k₀
    have ov10 := V9
    obtain ⟨cl10, Ar10, q10, S10, N_10, H_10, G_10⟩ := ov10
    have hin10 : ¬ ((4 : Int32) < 0 ∨ cl10.slots.size ≤ ((4 : Int32)).toNatClampNeg) := inb_of S10 ⟨by decide, by decide⟩
    obtain ⟨T11, h11, X11, e11, W11, st11⟩ := stB X9 hx hZ e9 Ar10 (j := (4 : Int32)) hin10 (g := (mkF m 146 #[.val (.int p1), .val (.int p2), .val (.int p3), .val (.int p4), .val (.int (p1 &&& (3 : Int32))), .val (.int (p2 &&& (2147483647 : Int32))), .val (.int cp), .val (.int want), .val (.int ov), .val (.int fb), .val (.ref ob1), .unset, .unset, .unset, .unset, .unset, .unset, .unset] [(.int fb), (.int (4 : Int32)), (.ref ob1)])) rfl rfl (hb hby at_146)
    refine hG _ _ (fun t₀ k₀ => st11 _ k₀) ?_
    have N11 := Fr.snoc X11 N9 g_ob1
    have o_x11 := o_x9.wr W11 g_ob1
    have z_11 : n0 ≤ h11.size := Nat.le_trans z_9 (Keep.of_wr W11).1
    have V11 : Arv Z h11 ob1 k1 .byte (8 : Int32) [(.int (fb.toInt8.toInt32)), (.int (fb.toInt8.toInt32)), (.int (fb.toInt8.toInt32)), (.int (fb.toInt8.toInt32)), (.int (fb.toInt8.toInt32)), (.int (0 : Int32)), (.int (0 : Int32)), (.int (0 : Int32))] (.int (0 : Int32)) := Arv.set Ar10 q10 S10 N_10 H_10 G_10 (fits_nar_byte _) W11 4 rfl (Nat.le_of_ble_eq_true rfl)
    show G (T11.setTop (mkF m 147 #[.val (.int p1), .val (.int p2), .val (.int p3), .val (.int p4), .val (.int (p1 &&& (3 : Int32))), .val (.int (p2 &&& (2147483647 : Int32))), .val (.int cp), .val (.int want), .val (.int ov), .val (.int fb), .val (.ref ob1), .unset, .unset, .unset, .unset, .unset, .unset, .unset] []))
    refine hG _ (T11.setTop (mkF m 152 #[.val (.int p1), .val (.int p2), .val (.int p3), .val (.int p4), .val (.int (p1 &&& (3 : Int32))), .val (.int (p2 &&& (2147483647 : Int32))), .val (.int cp), .val (.int want), .val (.int ov), .val (.int fb), .val (.ref ob1), .unset, .unset, .unset, .unset, .unset, .unset, .unset] [(.int fb), (.int (5 : Int32)), (.ref ob1)])) (fun t₀ k₀ => ?_) ?_
    · show Steps p.tables e below (T11.setTop (mkF m 147 #[.val (.int p1), .val (.int p2), .val (.int p3), .val (.int p4), .val (.int (p1 &&& (3 : Int32))), .val (.int (p2 &&& (2147483647 : Int32))), .val (.int cp), .val (.int want), .val (.int ov), .val (.int fb), .val (.ref ob1), .unset, .unset, .unset, .unset, .unset, .unset, .unset] [])) t₀
      refine XS.aload X11.here hx rfl (hb hby at_147) rfl rfl ?_
      show Steps p.tables e below (T11.setTop (mkF m 149 #[.val (.int p1), .val (.int p2), .val (.int p3), .val (.int p4), .val (.int (p1 &&& (3 : Int32))), .val (.int (p2 &&& (2147483647 : Int32))), .val (.int cp), .val (.int want), .val (.int ov), .val (.int fb), .val (.ref ob1), .unset, .unset, .unset, .unset, .unset, .unset, .unset] [(.ref ob1)])) t₀
      refine XS.iconst X11.here hx rfl (hb hby at_149) ?_
      show Steps p.tables e below (T11.setTop (mkF m 150 #[.val (.int p1), .val (.int p2), .val (.int p3), .val (.int p4), .val (.int (p1 &&& (3 : Int32))), .val (.int (p2 &&& (2147483647 : Int32))), .val (.int cp), .val (.int want), .val (.int ov), .val (.int fb), .val (.ref ob1), .unset, .unset, .unset, .unset, .unset, .unset, .unset] [(.int (5 : Int32)), (.ref ob1)])) t₀
      refine XS.iload X11.here hx rfl (hb hby at_150) rfl ?_
      exact k₀
    have ov12 := V11
    obtain ⟨cl12, Ar12, q12, S12, N_12, H_12, G_12⟩ := ov12
    have hin12 : ¬ ((5 : Int32) < 0 ∨ cl12.slots.size ≤ ((5 : Int32)).toNatClampNeg) := inb_of S12 ⟨by decide, by decide⟩
    obtain ⟨T13, h13, X13, e13, W13, st13⟩ := stB X11 hx hZ e11 Ar12 (j := (5 : Int32)) hin12 (g := (mkF m 152 #[.val (.int p1), .val (.int p2), .val (.int p3), .val (.int p4), .val (.int (p1 &&& (3 : Int32))), .val (.int (p2 &&& (2147483647 : Int32))), .val (.int cp), .val (.int want), .val (.int ov), .val (.int fb), .val (.ref ob1), .unset, .unset, .unset, .unset, .unset, .unset, .unset] [(.int fb), (.int (5 : Int32)), (.ref ob1)])) rfl rfl (hb hby at_152)
    refine hG _ _ (fun t₀ k₀ => st13 _ k₀) ?_
    have N13 := Fr.snoc X13 N11 g_ob1
    have o_x13 := o_x11.wr W13 g_ob1
    have z_13 : n0 ≤ h13.size := Nat.le_trans z_11 (Keep.of_wr W13).1
    have V13 : Arv Z h13 ob1 k1 .byte (8 : Int32) [(.int (fb.toInt8.toInt32)), (.int (fb.toInt8.toInt32)), (.int (fb.toInt8.toInt32)), (.int (fb.toInt8.toInt32)), (.int (fb.toInt8.toInt32)), (.int (fb.toInt8.toInt32)), (.int (0 : Int32)), (.int (0 : Int32))] (.int (0 : Int32)) := Arv.set Ar12 q12 S12 N_12 H_12 G_12 (fits_nar_byte _) W13 5 rfl (Nat.le_of_ble_eq_true rfl)
    show G (T13.setTop (mkF m 153 #[.val (.int p1), .val (.int p2), .val (.int p3), .val (.int p4), .val (.int (p1 &&& (3 : Int32))), .val (.int (p2 &&& (2147483647 : Int32))), .val (.int cp), .val (.int want), .val (.int ov), .val (.int fb), .val (.ref ob1), .unset, .unset, .unset, .unset, .unset, .unset, .unset] []))
    refine hG _ (T13.setTop (mkF m 159 #[.val (.int p1), .val (.int p2), .val (.int p3), .val (.int p4), .val (.int (p1 &&& (3 : Int32))), .val (.int (p2 &&& (2147483647 : Int32))), .val (.int cp), .val (.int want), .val (.int ov), .val (.int fb), .val (.ref ob1), .unset, .unset, .unset, .unset, .unset, .unset, .unset] [(.int fb), (.int (6 : Int32)), (.ref ob1)])) (fun t₀ k₀ => ?_) ?_
    · show Steps p.tables e below (T13.setTop (mkF m 153 #[.val (.int p1), .val (.int p2), .val (.int p3), .val (.int p4), .val (.int (p1 &&& (3 : Int32))), .val (.int (p2 &&& (2147483647 : Int32))), .val (.int cp), .val (.int want), .val (.int ov), .val (.int fb), .val (.ref ob1), .unset, .unset, .unset, .unset, .unset, .unset, .unset] [])) t₀
      refine XS.aload X13.here hx rfl (hb hby at_153) rfl rfl ?_
      show Steps p.tables e below (T13.setTop (mkF m 155 #[.val (.int p1), .val (.int p2), .val (.int p3), .val (.int p4), .val (.int (p1 &&& (3 : Int32))), .val (.int (p2 &&& (2147483647 : Int32))), .val (.int cp), .val (.int want), .val (.int ov), .val (.int fb), .val (.ref ob1), .unset, .unset, .unset, .unset, .unset, .unset, .unset] [(.ref ob1)])) t₀
      refine XS.bipush X13.here hx rfl (hb hby at_155) ?_
      show Steps p.tables e below (T13.setTop (mkF m 157 #[.val (.int p1), .val (.int p2), .val (.int p3), .val (.int p4), .val (.int (p1 &&& (3 : Int32))), .val (.int (p2 &&& (2147483647 : Int32))), .val (.int cp), .val (.int want), .val (.int ov), .val (.int fb), .val (.ref ob1), .unset, .unset, .unset, .unset, .unset, .unset, .unset] [(.int (6 : Int32)), (.ref ob1)])) t₀
      refine XS.iload X13.here hx rfl (hb hby at_157) rfl ?_
      exact k₀
    have ov14 := V13
    obtain ⟨cl14, Ar14, q14, S14, N_14, H_14, G_14⟩ := ov14
    have hin14 : ¬ ((6 : Int32) < 0 ∨ cl14.slots.size ≤ ((6 : Int32)).toNatClampNeg) := inb_of S14 ⟨by decide, by decide⟩
    obtain ⟨T15, h15, X15, e15, W15, st15⟩ := stB X13 hx hZ e13 Ar14 (j := (6 : Int32)) hin14 (g := (mkF m 159 #[.val (.int p1), .val (.int p2), .val (.int p3), .val (.int p4), .val (.int (p1 &&& (3 : Int32))), .val (.int (p2 &&& (2147483647 : Int32))), .val (.int cp), .val (.int want), .val (.int ov), .val (.int fb), .val (.ref ob1), .unset, .unset, .unset, .unset, .unset, .unset, .unset] [(.int fb), (.int (6 : Int32)), (.ref ob1)])) rfl rfl (hb hby at_159)
    refine hG _ _ (fun t₀ k₀ => st15 _ k₀) ?_
    have N15 := Fr.snoc X15 N13 g_ob1
    have o_x15 := o_x13.wr W15 g_ob1
    have z_15 : n0 ≤ h15.size := Nat.le_trans z_13 (Keep.of_wr W15).1
    have V15 : Arv Z h15 ob1 k1 .byte (8 : Int32) [(.int (fb.toInt8.toInt32)), (.int (fb.toInt8.toInt32)), (.int (fb.toInt8.toInt32)), (.int (fb.toInt8.toInt32)), (.int (fb.toInt8.toInt32)), (.int (fb.toInt8.toInt32)), (.int (fb.toInt8.toInt32)), (.int (0 : Int32))] (.int (0 : Int32)) := Arv.set Ar14 q14 S14 N_14 H_14 G_14 (fits_nar_byte _) W15 6 rfl (Nat.le_of_ble_eq_true rfl)
    show G (T15.setTop (mkF m 160 #[.val (.int p1), .val (.int p2), .val (.int p3), .val (.int p4), .val (.int (p1 &&& (3 : Int32))), .val (.int (p2 &&& (2147483647 : Int32))), .val (.int cp), .val (.int want), .val (.int ov), .val (.int fb), .val (.ref ob1), .unset, .unset, .unset, .unset, .unset, .unset, .unset] []))
    refine hG _ (T15.setTop (mkF m 166 #[.val (.int p1), .val (.int p2), .val (.int p3), .val (.int p4), .val (.int (p1 &&& (3 : Int32))), .val (.int (p2 &&& (2147483647 : Int32))), .val (.int cp), .val (.int want), .val (.int ov), .val (.int fb), .val (.ref ob1), .unset, .unset, .unset, .unset, .unset, .unset, .unset] [(.int fb), (.int (7 : Int32)), (.ref ob1)])) (fun t₀ k₀ => ?_) ?_
    · show Steps p.tables e below (T15.setTop (mkF m 160 #[.val (.int p1), .val (.int p2), .val (.int p3), .val (.int p4), .val (.int (p1 &&& (3 : Int32))), .val (.int (p2 &&& (2147483647 : Int32))), .val (.int cp), .val (.int want), .val (.int ov), .val (.int fb), .val (.ref ob1), .unset, .unset, .unset, .unset, .unset, .unset, .unset] [])) t₀
      refine XS.aload X15.here hx rfl (hb hby at_160) rfl rfl ?_
      show Steps p.tables e below (T15.setTop (mkF m 162 #[.val (.int p1), .val (.int p2), .val (.int p3), .val (.int p4), .val (.int (p1 &&& (3 : Int32))), .val (.int (p2 &&& (2147483647 : Int32))), .val (.int cp), .val (.int want), .val (.int ov), .val (.int fb), .val (.ref ob1), .unset, .unset, .unset, .unset, .unset, .unset, .unset] [(.ref ob1)])) t₀
      refine XS.bipush X15.here hx rfl (hb hby at_162) ?_
      show Steps p.tables e below (T15.setTop (mkF m 164 #[.val (.int p1), .val (.int p2), .val (.int p3), .val (.int p4), .val (.int (p1 &&& (3 : Int32))), .val (.int (p2 &&& (2147483647 : Int32))), .val (.int cp), .val (.int want), .val (.int ov), .val (.int fb), .val (.ref ob1), .unset, .unset, .unset, .unset, .unset, .unset, .unset] [(.int (7 : Int32)), (.ref ob1)])) t₀
      refine XS.iload X15.here hx rfl (hb hby at_164) rfl ?_
      exact k₀
    have ov16 := V15
    obtain ⟨cl16, Ar16, q16, S16, N_16, H_16, G_16⟩ := ov16
    have hin16 : ¬ ((7 : Int32) < 0 ∨ cl16.slots.size ≤ ((7 : Int32)).toNatClampNeg) := inb_of S16 ⟨by decide, by decide⟩
    obtain ⟨T17, h17, X17, e17, W17, st17⟩ := stB X15 hx hZ e15 Ar16 (j := (7 : Int32)) hin16 (g := (mkF m 166 #[.val (.int p1), .val (.int p2), .val (.int p3), .val (.int p4), .val (.int (p1 &&& (3 : Int32))), .val (.int (p2 &&& (2147483647 : Int32))), .val (.int cp), .val (.int want), .val (.int ov), .val (.int fb), .val (.ref ob1), .unset, .unset, .unset, .unset, .unset, .unset, .unset] [(.int fb), (.int (7 : Int32)), (.ref ob1)])) rfl rfl (hb hby at_166)
    refine hG _ _ (fun t₀ k₀ => st17 _ k₀) ?_
    have N17 := Fr.snoc X17 N15 g_ob1
    have o_x17 := o_x15.wr W17 g_ob1
    have z_17 : n0 ≤ h17.size := Nat.le_trans z_15 (Keep.of_wr W17).1
    have V17 : Arv Z h17 ob1 k1 .byte (8 : Int32) [(.int (fb.toInt8.toInt32)), (.int (fb.toInt8.toInt32)), (.int (fb.toInt8.toInt32)), (.int (fb.toInt8.toInt32)), (.int (fb.toInt8.toInt32)), (.int (fb.toInt8.toInt32)), (.int (fb.toInt8.toInt32)), (.int (fb.toInt8.toInt32))] (.int (0 : Int32)) := Arv.set Ar16 q16 S16 N_16 H_16 G_16 (fits_nar_byte _) W17 7 rfl (Nat.le_of_ble_eq_true rfl)
    show G (T17.setTop (mkF m 167 #[.val (.int p1), .val (.int p2), .val (.int p3), .val (.int p4), .val (.int (p1 &&& (3 : Int32))), .val (.int (p2 &&& (2147483647 : Int32))), .val (.int cp), .val (.int want), .val (.int ov), .val (.int fb), .val (.ref ob1), .unset, .unset, .unset, .unset, .unset, .unset, .unset] []))
    rw [hfb8] at V17
    have OB := own_ofArv V17
    have tlK : ∀ (TT : State) (hT : Heap) (LT : List Loc) (XT : Stand p l e room_1 s m #[(.int p1), (.int p2), (.int p3), (.int p4)] below meth c TT LT 1 8) (eT : TT.heap = hT) (NT : Fr n0 LT) (zT : n0 ≤ hT.size) (f : Nat → Int32) (OT : OwnB Z hT ob1 f) (nv b0 c1 c2 c3 dec : Int32) (hk : ∀ i : Int32, 0 ≤ i.toInt → (i < ov ∨ ¬ i < (ov + nv)) → f i.toNatClampNeg = fb), G (TT.setTop (mkF m 501 #[.val (.int p1), .val (.int p2), .val (.int p3), .val (.int p4), .val (.int (p1 &&& (3 : Int32))), .val (.int (p2 &&& (2147483647 : Int32))), .val (.int cp), .val (.int nv), .val (.int ov), .val (.int fb), .val (.ref ob1), .val (.int nv), .val (.int b0), .val (.int c1), .val (.int c2), .val (.int c3), .val (.int (1 : Int32)), .val (.int dec)] [])) := by
      intro TT hT LT XT eT NT zT f OT nv b0 c1 c2 c3 dec hk
      refine hG _ (TT.setTop (mkF m 510 #[.val (.int p1), .val (.int p2), .val (.int p3), .val (.int p4), .val (.int (p1 &&& (3 : Int32))), .val (.int (p2 &&& (2147483647 : Int32))), .val (.int cp), .val (.int nv), .val (.int ov), .val (.int fb), .val (.ref ob1), .val (.int nv), .val (.int b0), .val (.int c1), .val (.int c2), .val (.int c3), .val (.int (1 : Int32)), .val (.int dec)] [(.int fb), (.int nv), (.int ov), (.int (0 : Int32)), (.ref ob1)])) (fun t₀ k₀ => ?_) ?_
      · show Steps p.tables e below (TT.setTop (mkF m 501 #[.val (.int p1), .val (.int p2), .val (.int p3), .val (.int p4), .val (.int (p1 &&& (3 : Int32))), .val (.int (p2 &&& (2147483647 : Int32))), .val (.int cp), .val (.int nv), .val (.int ov), .val (.int fb), .val (.ref ob1), .val (.int nv), .val (.int b0), .val (.int c1), .val (.int c2), .val (.int c3), .val (.int (1 : Int32)), .val (.int dec)] [])) t₀
        refine XS.aload XT.here hx rfl (hb hby at_501) rfl rfl ?_
        show Steps p.tables e below (TT.setTop (mkF m 503 #[.val (.int p1), .val (.int p2), .val (.int p3), .val (.int p4), .val (.int (p1 &&& (3 : Int32))), .val (.int (p2 &&& (2147483647 : Int32))), .val (.int cp), .val (.int nv), .val (.int ov), .val (.int fb), .val (.ref ob1), .val (.int nv), .val (.int b0), .val (.int c1), .val (.int c2), .val (.int c3), .val (.int (1 : Int32)), .val (.int dec)] [(.ref ob1)])) t₀
        refine XS.iconst XT.here hx rfl (hb hby at_503) ?_
        show Steps p.tables e below (TT.setTop (mkF m 504 #[.val (.int p1), .val (.int p2), .val (.int p3), .val (.int p4), .val (.int (p1 &&& (3 : Int32))), .val (.int (p2 &&& (2147483647 : Int32))), .val (.int cp), .val (.int nv), .val (.int ov), .val (.int fb), .val (.ref ob1), .val (.int nv), .val (.int b0), .val (.int c1), .val (.int c2), .val (.int c3), .val (.int (1 : Int32)), .val (.int dec)] [(.int (0 : Int32)), (.ref ob1)])) t₀
        refine XS.iload XT.here hx rfl (hb hby at_504) rfl ?_
        show Steps p.tables e below (TT.setTop (mkF m 506 #[.val (.int p1), .val (.int p2), .val (.int p3), .val (.int p4), .val (.int (p1 &&& (3 : Int32))), .val (.int (p2 &&& (2147483647 : Int32))), .val (.int cp), .val (.int nv), .val (.int ov), .val (.int fb), .val (.ref ob1), .val (.int nv), .val (.int b0), .val (.int c1), .val (.int c2), .val (.int c3), .val (.int (1 : Int32)), .val (.int dec)] [(.int ov), (.int (0 : Int32)), (.ref ob1)])) t₀
        refine XS.iload XT.here hx rfl (hb hby at_506) rfl ?_
        show Steps p.tables e below (TT.setTop (mkF m 508 #[.val (.int p1), .val (.int p2), .val (.int p3), .val (.int p4), .val (.int (p1 &&& (3 : Int32))), .val (.int (p2 &&& (2147483647 : Int32))), .val (.int cp), .val (.int nv), .val (.int ov), .val (.int fb), .val (.ref ob1), .val (.int nv), .val (.int b0), .val (.int c1), .val (.int c2), .val (.int c3), .val (.int (1 : Int32)), .val (.int dec)] [(.int nv), (.int ov), (.int (0 : Int32)), (.ref ob1)])) t₀
        refine XS.iload XT.here hx rfl (hb hby at_508) rfl ?_
        exact k₀
      obtain ⟨_, _, ⟨T18, L18, k18, n18⟩, -, X18, ⟨Lc18, hQ18, l18, y18, z18⟩, st18⟩ := Jvm.LawKit.callS XT hx (y := (⟨"com/example/opledger/opledger/Utf8EncodePinLaw", "kept", "([BIIIB)Z"⟩ : MethodName)) hown (mvT hZ (hw _ (List.mem_of_getElem? (i := 8) rfl))) (mvT hZ (hw _ (List.mem_of_getElem? (i := 9) rfl))) (mvT hZ (hw _ (List.mem_of_getElem? (i := 10) rfl))) (mvT hZ (hw _ (List.mem_of_getElem? (i := 11) rfl))) (by decide) (backOf (W := 0) (rmK l Z a0 hw [] ob1 (0 : Int32) ov nv fb f hT n0 zT OT (by decide) (by decide) (hk (0 : Int32) (by decide))) hZ (hw _ (List.mem_of_getElem? (i := 11) rfl)) (hw _ (List.mem_of_getElem? (i := 10) rfl)) (by decide) (by decide)) (g := (mkF m 510 #[.val (.int p1), .val (.int p2), .val (.int p3), .val (.int p4), .val (.int (p1 &&& (3 : Int32))), .val (.int (p2 &&& (2147483647 : Int32))), .val (.int cp), .val (.int nv), .val (.int ov), .val (.int fb), .val (.ref ob1), .val (.int nv), .val (.int b0), .val (.int c1), .val (.int c2), .val (.int c3), .val (.int (1 : Int32)), .val (.int dec)] [(.int fb), (.int nv), (.int ov), (.int (0 : Int32)), (.ref ob1)])) rfl (by rw [hml]; rfl) (argsL := [(.ref ob1), (.int (0 : Int32)), (.int ov), (.int nv), (.int fb)]) (rest := []) (lenOf pd_1 rfl) rfl (by show 2 * 0 + _ ≤ _; exact Nat.le_of_eq rfl) (hb hby at_510) (fun _ _ => ⟨rfl, eT, (by decide : 1 + 0 ≤ _), (by decide : 8 + 0 ≤ _)⟩)
      dsimp only [Pt.U, Pt.locs, Pt.cells, Pt.slots] at X18 l18 y18 z18 st18 hQ18
      subst l18 y18 z18
      obtain ⟨rfl, N18q, e18⟩ := hQ18
      have N18 := Fr.app NT N18q
      refine hG _ _ (fun t₀ k₀ => st18 _ k₀) ?_
      show G (T18.setTop (mkF m 513 #[.val (.int p1), .val (.int p2), .val (.int p3), .val (.int p4), .val (.int (p1 &&& (3 : Int32))), .val (.int (p2 &&& (2147483647 : Int32))), .val (.int cp), .val (.int nv), .val (.int ov), .val (.int fb), .val (.ref ob1), .val (.int nv), .val (.int b0), .val (.int c1), .val (.int c2), .val (.int c3), .val (.int (1 : Int32)), .val (.int dec)] [(.int (1 : Int32))]))
      refine hG _ (T18.setTop (mkF m 525 #[.val (.int p1), .val (.int p2), .val (.int p3), .val (.int p4), .val (.int (p1 &&& (3 : Int32))), .val (.int (p2 &&& (2147483647 : Int32))), .val (.int cp), .val (.int nv), .val (.int ov), .val (.int fb), .val (.ref ob1), .val (.int nv), .val (.int b0), .val (.int c1), .val (.int c2), .val (.int c3), .val (.int (1 : Int32)), .val (.int dec)] [(.int fb), (.int nv), (.int ov), (.int (1 : Int32)), (.ref ob1)])) (fun t₀ k₀ => ?_) ?_
      · show Steps p.tables e below (T18.setTop (mkF m 513 #[.val (.int p1), .val (.int p2), .val (.int p3), .val (.int p4), .val (.int (p1 &&& (3 : Int32))), .val (.int (p2 &&& (2147483647 : Int32))), .val (.int cp), .val (.int nv), .val (.int ov), .val (.int fb), .val (.ref ob1), .val (.int nv), .val (.int b0), .val (.int c1), .val (.int c2), .val (.int c3), .val (.int (1 : Int32)), .val (.int dec)] [(.int (1 : Int32))])) t₀
        refine XS.ifNo X18.here hx rfl (hb hby at_513) rfl ((if0 _ _).trans (feq (by decide : ¬ ((1 : Int32) = (0 : Int32)))).1) ?_
        show Steps p.tables e below (T18.setTop (mkF m 516 #[.val (.int p1), .val (.int p2), .val (.int p3), .val (.int p4), .val (.int (p1 &&& (3 : Int32))), .val (.int (p2 &&& (2147483647 : Int32))), .val (.int cp), .val (.int nv), .val (.int ov), .val (.int fb), .val (.ref ob1), .val (.int nv), .val (.int b0), .val (.int c1), .val (.int c2), .val (.int c3), .val (.int (1 : Int32)), .val (.int dec)] [])) t₀
        refine XS.aload X18.here hx rfl (hb hby at_516) rfl rfl ?_
        show Steps p.tables e below (T18.setTop (mkF m 518 #[.val (.int p1), .val (.int p2), .val (.int p3), .val (.int p4), .val (.int (p1 &&& (3 : Int32))), .val (.int (p2 &&& (2147483647 : Int32))), .val (.int cp), .val (.int nv), .val (.int ov), .val (.int fb), .val (.ref ob1), .val (.int nv), .val (.int b0), .val (.int c1), .val (.int c2), .val (.int c3), .val (.int (1 : Int32)), .val (.int dec)] [(.ref ob1)])) t₀
        refine XS.iconst X18.here hx rfl (hb hby at_518) ?_
        show Steps p.tables e below (T18.setTop (mkF m 519 #[.val (.int p1), .val (.int p2), .val (.int p3), .val (.int p4), .val (.int (p1 &&& (3 : Int32))), .val (.int (p2 &&& (2147483647 : Int32))), .val (.int cp), .val (.int nv), .val (.int ov), .val (.int fb), .val (.ref ob1), .val (.int nv), .val (.int b0), .val (.int c1), .val (.int c2), .val (.int c3), .val (.int (1 : Int32)), .val (.int dec)] [(.int (1 : Int32)), (.ref ob1)])) t₀
        refine XS.iload X18.here hx rfl (hb hby at_519) rfl ?_
        show Steps p.tables e below (T18.setTop (mkF m 521 #[.val (.int p1), .val (.int p2), .val (.int p3), .val (.int p4), .val (.int (p1 &&& (3 : Int32))), .val (.int (p2 &&& (2147483647 : Int32))), .val (.int cp), .val (.int nv), .val (.int ov), .val (.int fb), .val (.ref ob1), .val (.int nv), .val (.int b0), .val (.int c1), .val (.int c2), .val (.int c3), .val (.int (1 : Int32)), .val (.int dec)] [(.int ov), (.int (1 : Int32)), (.ref ob1)])) t₀
        refine XS.iload X18.here hx rfl (hb hby at_521) rfl ?_
        show Steps p.tables e below (T18.setTop (mkF m 523 #[.val (.int p1), .val (.int p2), .val (.int p3), .val (.int p4), .val (.int (p1 &&& (3 : Int32))), .val (.int (p2 &&& (2147483647 : Int32))), .val (.int cp), .val (.int nv), .val (.int ov), .val (.int fb), .val (.ref ob1), .val (.int nv), .val (.int b0), .val (.int c1), .val (.int c2), .val (.int c3), .val (.int (1 : Int32)), .val (.int dec)] [(.int nv), (.int ov), (.int (1 : Int32)), (.ref ob1)])) t₀
        refine XS.iload X18.here hx rfl (hb hby at_523) rfl ?_
        exact k₀
      obtain ⟨_, _, ⟨T19, L19, k19, n19⟩, -, X19, ⟨Lc19, hQ19, l19, y19, z19⟩, st19⟩ := Jvm.LawKit.callS X18 hx (y := (⟨"com/example/opledger/opledger/Utf8EncodePinLaw", "kept", "([BIIIB)Z"⟩ : MethodName)) hown (mvT hZ (hw _ (List.mem_of_getElem? (i := 8) rfl))) (mvT hZ (hw _ (List.mem_of_getElem? (i := 9) rfl))) (mvT hZ (hw _ (List.mem_of_getElem? (i := 10) rfl))) (mvT hZ (hw _ (List.mem_of_getElem? (i := 11) rfl))) (by decide) (backOf (W := 0) (rmK l Z a0 hw [] ob1 (1 : Int32) ov nv fb f hT n0 zT OT (by decide) (by decide) (hk (1 : Int32) (by decide))) hZ (hw _ (List.mem_of_getElem? (i := 11) rfl)) (hw _ (List.mem_of_getElem? (i := 10) rfl)) (by decide) (by decide)) (g := (mkF m 525 #[.val (.int p1), .val (.int p2), .val (.int p3), .val (.int p4), .val (.int (p1 &&& (3 : Int32))), .val (.int (p2 &&& (2147483647 : Int32))), .val (.int cp), .val (.int nv), .val (.int ov), .val (.int fb), .val (.ref ob1), .val (.int nv), .val (.int b0), .val (.int c1), .val (.int c2), .val (.int c3), .val (.int (1 : Int32)), .val (.int dec)] [(.int fb), (.int nv), (.int ov), (.int (1 : Int32)), (.ref ob1)])) rfl (by rw [hml]; rfl) (argsL := [(.ref ob1), (.int (1 : Int32)), (.int ov), (.int nv), (.int fb)]) (rest := []) (lenOf pd_1 rfl) rfl (by show 2 * 0 + _ ≤ _; exact Nat.le_of_eq rfl) (hb hby at_525) (fun _ _ => ⟨rfl, e18, (by decide : 1 + 0 ≤ _), (by decide : 8 + 0 ≤ _)⟩)
      dsimp only [Pt.U, Pt.locs, Pt.cells, Pt.slots] at X19 l19 y19 z19 st19 hQ19
      subst l19 y19 z19
      obtain ⟨rfl, N19q, e19⟩ := hQ19
      have N19 := Fr.app N18 N19q
      refine hG _ _ (fun t₀ k₀ => st19 _ k₀) ?_
      show G (T19.setTop (mkF m 528 #[.val (.int p1), .val (.int p2), .val (.int p3), .val (.int p4), .val (.int (p1 &&& (3 : Int32))), .val (.int (p2 &&& (2147483647 : Int32))), .val (.int cp), .val (.int nv), .val (.int ov), .val (.int fb), .val (.ref ob1), .val (.int nv), .val (.int b0), .val (.int c1), .val (.int c2), .val (.int c3), .val (.int (1 : Int32)), .val (.int dec)] [(.int (1 : Int32))]))
      refine hG _ (T19.setTop (mkF m 540 #[.val (.int p1), .val (.int p2), .val (.int p3), .val (.int p4), .val (.int (p1 &&& (3 : Int32))), .val (.int (p2 &&& (2147483647 : Int32))), .val (.int cp), .val (.int nv), .val (.int ov), .val (.int fb), .val (.ref ob1), .val (.int nv), .val (.int b0), .val (.int c1), .val (.int c2), .val (.int c3), .val (.int (1 : Int32)), .val (.int dec)] [(.int fb), (.int nv), (.int ov), (.int (2 : Int32)), (.ref ob1)])) (fun t₀ k₀ => ?_) ?_
      · show Steps p.tables e below (T19.setTop (mkF m 528 #[.val (.int p1), .val (.int p2), .val (.int p3), .val (.int p4), .val (.int (p1 &&& (3 : Int32))), .val (.int (p2 &&& (2147483647 : Int32))), .val (.int cp), .val (.int nv), .val (.int ov), .val (.int fb), .val (.ref ob1), .val (.int nv), .val (.int b0), .val (.int c1), .val (.int c2), .val (.int c3), .val (.int (1 : Int32)), .val (.int dec)] [(.int (1 : Int32))])) t₀
        refine XS.ifNo X19.here hx rfl (hb hby at_528) rfl ((if0 _ _).trans (feq (by decide : ¬ ((1 : Int32) = (0 : Int32)))).1) ?_
        show Steps p.tables e below (T19.setTop (mkF m 531 #[.val (.int p1), .val (.int p2), .val (.int p3), .val (.int p4), .val (.int (p1 &&& (3 : Int32))), .val (.int (p2 &&& (2147483647 : Int32))), .val (.int cp), .val (.int nv), .val (.int ov), .val (.int fb), .val (.ref ob1), .val (.int nv), .val (.int b0), .val (.int c1), .val (.int c2), .val (.int c3), .val (.int (1 : Int32)), .val (.int dec)] [])) t₀
        refine XS.aload X19.here hx rfl (hb hby at_531) rfl rfl ?_
        show Steps p.tables e below (T19.setTop (mkF m 533 #[.val (.int p1), .val (.int p2), .val (.int p3), .val (.int p4), .val (.int (p1 &&& (3 : Int32))), .val (.int (p2 &&& (2147483647 : Int32))), .val (.int cp), .val (.int nv), .val (.int ov), .val (.int fb), .val (.ref ob1), .val (.int nv), .val (.int b0), .val (.int c1), .val (.int c2), .val (.int c3), .val (.int (1 : Int32)), .val (.int dec)] [(.ref ob1)])) t₀
        refine XS.iconst X19.here hx rfl (hb hby at_533) ?_
        show Steps p.tables e below (T19.setTop (mkF m 534 #[.val (.int p1), .val (.int p2), .val (.int p3), .val (.int p4), .val (.int (p1 &&& (3 : Int32))), .val (.int (p2 &&& (2147483647 : Int32))), .val (.int cp), .val (.int nv), .val (.int ov), .val (.int fb), .val (.ref ob1), .val (.int nv), .val (.int b0), .val (.int c1), .val (.int c2), .val (.int c3), .val (.int (1 : Int32)), .val (.int dec)] [(.int (2 : Int32)), (.ref ob1)])) t₀
        refine XS.iload X19.here hx rfl (hb hby at_534) rfl ?_
        show Steps p.tables e below (T19.setTop (mkF m 536 #[.val (.int p1), .val (.int p2), .val (.int p3), .val (.int p4), .val (.int (p1 &&& (3 : Int32))), .val (.int (p2 &&& (2147483647 : Int32))), .val (.int cp), .val (.int nv), .val (.int ov), .val (.int fb), .val (.ref ob1), .val (.int nv), .val (.int b0), .val (.int c1), .val (.int c2), .val (.int c3), .val (.int (1 : Int32)), .val (.int dec)] [(.int ov), (.int (2 : Int32)), (.ref ob1)])) t₀
        refine XS.iload X19.here hx rfl (hb hby at_536) rfl ?_
        show Steps p.tables e below (T19.setTop (mkF m 538 #[.val (.int p1), .val (.int p2), .val (.int p3), .val (.int p4), .val (.int (p1 &&& (3 : Int32))), .val (.int (p2 &&& (2147483647 : Int32))), .val (.int cp), .val (.int nv), .val (.int ov), .val (.int fb), .val (.ref ob1), .val (.int nv), .val (.int b0), .val (.int c1), .val (.int c2), .val (.int c3), .val (.int (1 : Int32)), .val (.int dec)] [(.int nv), (.int ov), (.int (2 : Int32)), (.ref ob1)])) t₀
        refine XS.iload X19.here hx rfl (hb hby at_538) rfl ?_
        exact k₀
      obtain ⟨_, _, ⟨T20, L20, k20, n20⟩, -, X20, ⟨Lc20, hQ20, l20, y20, z20⟩, st20⟩ := Jvm.LawKit.callS X19 hx (y := (⟨"com/example/opledger/opledger/Utf8EncodePinLaw", "kept", "([BIIIB)Z"⟩ : MethodName)) hown (mvT hZ (hw _ (List.mem_of_getElem? (i := 8) rfl))) (mvT hZ (hw _ (List.mem_of_getElem? (i := 9) rfl))) (mvT hZ (hw _ (List.mem_of_getElem? (i := 10) rfl))) (mvT hZ (hw _ (List.mem_of_getElem? (i := 11) rfl))) (by decide) (backOf (W := 0) (rmK l Z a0 hw [] ob1 (2 : Int32) ov nv fb f hT n0 zT OT (by decide) (by decide) (hk (2 : Int32) (by decide))) hZ (hw _ (List.mem_of_getElem? (i := 11) rfl)) (hw _ (List.mem_of_getElem? (i := 10) rfl)) (by decide) (by decide)) (g := (mkF m 540 #[.val (.int p1), .val (.int p2), .val (.int p3), .val (.int p4), .val (.int (p1 &&& (3 : Int32))), .val (.int (p2 &&& (2147483647 : Int32))), .val (.int cp), .val (.int nv), .val (.int ov), .val (.int fb), .val (.ref ob1), .val (.int nv), .val (.int b0), .val (.int c1), .val (.int c2), .val (.int c3), .val (.int (1 : Int32)), .val (.int dec)] [(.int fb), (.int nv), (.int ov), (.int (2 : Int32)), (.ref ob1)])) rfl (by rw [hml]; rfl) (argsL := [(.ref ob1), (.int (2 : Int32)), (.int ov), (.int nv), (.int fb)]) (rest := []) (lenOf pd_1 rfl) rfl (by show 2 * 0 + _ ≤ _; exact Nat.le_of_eq rfl) (hb hby at_540) (fun _ _ => ⟨rfl, e19, (by decide : 1 + 0 ≤ _), (by decide : 8 + 0 ≤ _)⟩)
      dsimp only [Pt.U, Pt.locs, Pt.cells, Pt.slots] at X20 l20 y20 z20 st20 hQ20
      subst l20 y20 z20
      obtain ⟨rfl, N20q, e20⟩ := hQ20
      have N20 := Fr.app N19 N20q
      refine hG _ _ (fun t₀ k₀ => st20 _ k₀) ?_
      show G (T20.setTop (mkF m 543 #[.val (.int p1), .val (.int p2), .val (.int p3), .val (.int p4), .val (.int (p1 &&& (3 : Int32))), .val (.int (p2 &&& (2147483647 : Int32))), .val (.int cp), .val (.int nv), .val (.int ov), .val (.int fb), .val (.ref ob1), .val (.int nv), .val (.int b0), .val (.int c1), .val (.int c2), .val (.int c3), .val (.int (1 : Int32)), .val (.int dec)] [(.int (1 : Int32))]))
      refine hG _ (T20.setTop (mkF m 555 #[.val (.int p1), .val (.int p2), .val (.int p3), .val (.int p4), .val (.int (p1 &&& (3 : Int32))), .val (.int (p2 &&& (2147483647 : Int32))), .val (.int cp), .val (.int nv), .val (.int ov), .val (.int fb), .val (.ref ob1), .val (.int nv), .val (.int b0), .val (.int c1), .val (.int c2), .val (.int c3), .val (.int (1 : Int32)), .val (.int dec)] [(.int fb), (.int nv), (.int ov), (.int (3 : Int32)), (.ref ob1)])) (fun t₀ k₀ => ?_) ?_
      · show Steps p.tables e below (T20.setTop (mkF m 543 #[.val (.int p1), .val (.int p2), .val (.int p3), .val (.int p4), .val (.int (p1 &&& (3 : Int32))), .val (.int (p2 &&& (2147483647 : Int32))), .val (.int cp), .val (.int nv), .val (.int ov), .val (.int fb), .val (.ref ob1), .val (.int nv), .val (.int b0), .val (.int c1), .val (.int c2), .val (.int c3), .val (.int (1 : Int32)), .val (.int dec)] [(.int (1 : Int32))])) t₀
        refine XS.ifNo X20.here hx rfl (hb hby at_543) rfl ((if0 _ _).trans (feq (by decide : ¬ ((1 : Int32) = (0 : Int32)))).1) ?_
        show Steps p.tables e below (T20.setTop (mkF m 546 #[.val (.int p1), .val (.int p2), .val (.int p3), .val (.int p4), .val (.int (p1 &&& (3 : Int32))), .val (.int (p2 &&& (2147483647 : Int32))), .val (.int cp), .val (.int nv), .val (.int ov), .val (.int fb), .val (.ref ob1), .val (.int nv), .val (.int b0), .val (.int c1), .val (.int c2), .val (.int c3), .val (.int (1 : Int32)), .val (.int dec)] [])) t₀
        refine XS.aload X20.here hx rfl (hb hby at_546) rfl rfl ?_
        show Steps p.tables e below (T20.setTop (mkF m 548 #[.val (.int p1), .val (.int p2), .val (.int p3), .val (.int p4), .val (.int (p1 &&& (3 : Int32))), .val (.int (p2 &&& (2147483647 : Int32))), .val (.int cp), .val (.int nv), .val (.int ov), .val (.int fb), .val (.ref ob1), .val (.int nv), .val (.int b0), .val (.int c1), .val (.int c2), .val (.int c3), .val (.int (1 : Int32)), .val (.int dec)] [(.ref ob1)])) t₀
        refine XS.iconst X20.here hx rfl (hb hby at_548) ?_
        show Steps p.tables e below (T20.setTop (mkF m 549 #[.val (.int p1), .val (.int p2), .val (.int p3), .val (.int p4), .val (.int (p1 &&& (3 : Int32))), .val (.int (p2 &&& (2147483647 : Int32))), .val (.int cp), .val (.int nv), .val (.int ov), .val (.int fb), .val (.ref ob1), .val (.int nv), .val (.int b0), .val (.int c1), .val (.int c2), .val (.int c3), .val (.int (1 : Int32)), .val (.int dec)] [(.int (3 : Int32)), (.ref ob1)])) t₀
        refine XS.iload X20.here hx rfl (hb hby at_549) rfl ?_
        show Steps p.tables e below (T20.setTop (mkF m 551 #[.val (.int p1), .val (.int p2), .val (.int p3), .val (.int p4), .val (.int (p1 &&& (3 : Int32))), .val (.int (p2 &&& (2147483647 : Int32))), .val (.int cp), .val (.int nv), .val (.int ov), .val (.int fb), .val (.ref ob1), .val (.int nv), .val (.int b0), .val (.int c1), .val (.int c2), .val (.int c3), .val (.int (1 : Int32)), .val (.int dec)] [(.int ov), (.int (3 : Int32)), (.ref ob1)])) t₀
        refine XS.iload X20.here hx rfl (hb hby at_551) rfl ?_
        show Steps p.tables e below (T20.setTop (mkF m 553 #[.val (.int p1), .val (.int p2), .val (.int p3), .val (.int p4), .val (.int (p1 &&& (3 : Int32))), .val (.int (p2 &&& (2147483647 : Int32))), .val (.int cp), .val (.int nv), .val (.int ov), .val (.int fb), .val (.ref ob1), .val (.int nv), .val (.int b0), .val (.int c1), .val (.int c2), .val (.int c3), .val (.int (1 : Int32)), .val (.int dec)] [(.int nv), (.int ov), (.int (3 : Int32)), (.ref ob1)])) t₀
        refine XS.iload X20.here hx rfl (hb hby at_553) rfl ?_
        exact k₀
      obtain ⟨_, _, ⟨T21, L21, k21, n21⟩, -, X21, ⟨Lc21, hQ21, l21, y21, z21⟩, st21⟩ := Jvm.LawKit.callS X20 hx (y := (⟨"com/example/opledger/opledger/Utf8EncodePinLaw", "kept", "([BIIIB)Z"⟩ : MethodName)) hown (mvT hZ (hw _ (List.mem_of_getElem? (i := 8) rfl))) (mvT hZ (hw _ (List.mem_of_getElem? (i := 9) rfl))) (mvT hZ (hw _ (List.mem_of_getElem? (i := 10) rfl))) (mvT hZ (hw _ (List.mem_of_getElem? (i := 11) rfl))) (by decide) (backOf (W := 0) (rmK l Z a0 hw [] ob1 (3 : Int32) ov nv fb f hT n0 zT OT (by decide) (by decide) (hk (3 : Int32) (by decide))) hZ (hw _ (List.mem_of_getElem? (i := 11) rfl)) (hw _ (List.mem_of_getElem? (i := 10) rfl)) (by decide) (by decide)) (g := (mkF m 555 #[.val (.int p1), .val (.int p2), .val (.int p3), .val (.int p4), .val (.int (p1 &&& (3 : Int32))), .val (.int (p2 &&& (2147483647 : Int32))), .val (.int cp), .val (.int nv), .val (.int ov), .val (.int fb), .val (.ref ob1), .val (.int nv), .val (.int b0), .val (.int c1), .val (.int c2), .val (.int c3), .val (.int (1 : Int32)), .val (.int dec)] [(.int fb), (.int nv), (.int ov), (.int (3 : Int32)), (.ref ob1)])) rfl (by rw [hml]; rfl) (argsL := [(.ref ob1), (.int (3 : Int32)), (.int ov), (.int nv), (.int fb)]) (rest := []) (lenOf pd_1 rfl) rfl (by show 2 * 0 + _ ≤ _; exact Nat.le_of_eq rfl) (hb hby at_555) (fun _ _ => ⟨rfl, e20, (by decide : 1 + 0 ≤ _), (by decide : 8 + 0 ≤ _)⟩)
      dsimp only [Pt.U, Pt.locs, Pt.cells, Pt.slots] at X21 l21 y21 z21 st21 hQ21
      subst l21 y21 z21
      obtain ⟨rfl, N21q, e21⟩ := hQ21
      have N21 := Fr.app N20 N21q
      refine hG _ _ (fun t₀ k₀ => st21 _ k₀) ?_
      show G (T21.setTop (mkF m 558 #[.val (.int p1), .val (.int p2), .val (.int p3), .val (.int p4), .val (.int (p1 &&& (3 : Int32))), .val (.int (p2 &&& (2147483647 : Int32))), .val (.int cp), .val (.int nv), .val (.int ov), .val (.int fb), .val (.ref ob1), .val (.int nv), .val (.int b0), .val (.int c1), .val (.int c2), .val (.int c3), .val (.int (1 : Int32)), .val (.int dec)] [(.int (1 : Int32))]))
      refine hG _ (T21.setTop (mkF m 570 #[.val (.int p1), .val (.int p2), .val (.int p3), .val (.int p4), .val (.int (p1 &&& (3 : Int32))), .val (.int (p2 &&& (2147483647 : Int32))), .val (.int cp), .val (.int nv), .val (.int ov), .val (.int fb), .val (.ref ob1), .val (.int nv), .val (.int b0), .val (.int c1), .val (.int c2), .val (.int c3), .val (.int (1 : Int32)), .val (.int dec)] [(.int fb), (.int nv), (.int ov), (.int (4 : Int32)), (.ref ob1)])) (fun t₀ k₀ => ?_) ?_
      · show Steps p.tables e below (T21.setTop (mkF m 558 #[.val (.int p1), .val (.int p2), .val (.int p3), .val (.int p4), .val (.int (p1 &&& (3 : Int32))), .val (.int (p2 &&& (2147483647 : Int32))), .val (.int cp), .val (.int nv), .val (.int ov), .val (.int fb), .val (.ref ob1), .val (.int nv), .val (.int b0), .val (.int c1), .val (.int c2), .val (.int c3), .val (.int (1 : Int32)), .val (.int dec)] [(.int (1 : Int32))])) t₀
        refine XS.ifNo X21.here hx rfl (hb hby at_558) rfl ((if0 _ _).trans (feq (by decide : ¬ ((1 : Int32) = (0 : Int32)))).1) ?_
        show Steps p.tables e below (T21.setTop (mkF m 561 #[.val (.int p1), .val (.int p2), .val (.int p3), .val (.int p4), .val (.int (p1 &&& (3 : Int32))), .val (.int (p2 &&& (2147483647 : Int32))), .val (.int cp), .val (.int nv), .val (.int ov), .val (.int fb), .val (.ref ob1), .val (.int nv), .val (.int b0), .val (.int c1), .val (.int c2), .val (.int c3), .val (.int (1 : Int32)), .val (.int dec)] [])) t₀
        refine XS.aload X21.here hx rfl (hb hby at_561) rfl rfl ?_
        show Steps p.tables e below (T21.setTop (mkF m 563 #[.val (.int p1), .val (.int p2), .val (.int p3), .val (.int p4), .val (.int (p1 &&& (3 : Int32))), .val (.int (p2 &&& (2147483647 : Int32))), .val (.int cp), .val (.int nv), .val (.int ov), .val (.int fb), .val (.ref ob1), .val (.int nv), .val (.int b0), .val (.int c1), .val (.int c2), .val (.int c3), .val (.int (1 : Int32)), .val (.int dec)] [(.ref ob1)])) t₀
        refine XS.iconst X21.here hx rfl (hb hby at_563) ?_
        show Steps p.tables e below (T21.setTop (mkF m 564 #[.val (.int p1), .val (.int p2), .val (.int p3), .val (.int p4), .val (.int (p1 &&& (3 : Int32))), .val (.int (p2 &&& (2147483647 : Int32))), .val (.int cp), .val (.int nv), .val (.int ov), .val (.int fb), .val (.ref ob1), .val (.int nv), .val (.int b0), .val (.int c1), .val (.int c2), .val (.int c3), .val (.int (1 : Int32)), .val (.int dec)] [(.int (4 : Int32)), (.ref ob1)])) t₀
        refine XS.iload X21.here hx rfl (hb hby at_564) rfl ?_
        show Steps p.tables e below (T21.setTop (mkF m 566 #[.val (.int p1), .val (.int p2), .val (.int p3), .val (.int p4), .val (.int (p1 &&& (3 : Int32))), .val (.int (p2 &&& (2147483647 : Int32))), .val (.int cp), .val (.int nv), .val (.int ov), .val (.int fb), .val (.ref ob1), .val (.int nv), .val (.int b0), .val (.int c1), .val (.int c2), .val (.int c3), .val (.int (1 : Int32)), .val (.int dec)] [(.int ov), (.int (4 : Int32)), (.ref ob1)])) t₀
        refine XS.iload X21.here hx rfl (hb hby at_566) rfl ?_
        show Steps p.tables e below (T21.setTop (mkF m 568 #[.val (.int p1), .val (.int p2), .val (.int p3), .val (.int p4), .val (.int (p1 &&& (3 : Int32))), .val (.int (p2 &&& (2147483647 : Int32))), .val (.int cp), .val (.int nv), .val (.int ov), .val (.int fb), .val (.ref ob1), .val (.int nv), .val (.int b0), .val (.int c1), .val (.int c2), .val (.int c3), .val (.int (1 : Int32)), .val (.int dec)] [(.int nv), (.int ov), (.int (4 : Int32)), (.ref ob1)])) t₀
        refine XS.iload X21.here hx rfl (hb hby at_568) rfl ?_
        exact k₀
      obtain ⟨_, _, ⟨T22, L22, k22, n22⟩, -, X22, ⟨Lc22, hQ22, l22, y22, z22⟩, st22⟩ := Jvm.LawKit.callS X21 hx (y := (⟨"com/example/opledger/opledger/Utf8EncodePinLaw", "kept", "([BIIIB)Z"⟩ : MethodName)) hown (mvT hZ (hw _ (List.mem_of_getElem? (i := 8) rfl))) (mvT hZ (hw _ (List.mem_of_getElem? (i := 9) rfl))) (mvT hZ (hw _ (List.mem_of_getElem? (i := 10) rfl))) (mvT hZ (hw _ (List.mem_of_getElem? (i := 11) rfl))) (by decide) (backOf (W := 0) (rmK l Z a0 hw [] ob1 (4 : Int32) ov nv fb f hT n0 zT OT (by decide) (by decide) (hk (4 : Int32) (by decide))) hZ (hw _ (List.mem_of_getElem? (i := 11) rfl)) (hw _ (List.mem_of_getElem? (i := 10) rfl)) (by decide) (by decide)) (g := (mkF m 570 #[.val (.int p1), .val (.int p2), .val (.int p3), .val (.int p4), .val (.int (p1 &&& (3 : Int32))), .val (.int (p2 &&& (2147483647 : Int32))), .val (.int cp), .val (.int nv), .val (.int ov), .val (.int fb), .val (.ref ob1), .val (.int nv), .val (.int b0), .val (.int c1), .val (.int c2), .val (.int c3), .val (.int (1 : Int32)), .val (.int dec)] [(.int fb), (.int nv), (.int ov), (.int (4 : Int32)), (.ref ob1)])) rfl (by rw [hml]; rfl) (argsL := [(.ref ob1), (.int (4 : Int32)), (.int ov), (.int nv), (.int fb)]) (rest := []) (lenOf pd_1 rfl) rfl (by show 2 * 0 + _ ≤ _; exact Nat.le_of_eq rfl) (hb hby at_570) (fun _ _ => ⟨rfl, e21, (by decide : 1 + 0 ≤ _), (by decide : 8 + 0 ≤ _)⟩)
      dsimp only [Pt.U, Pt.locs, Pt.cells, Pt.slots] at X22 l22 y22 z22 st22 hQ22
      subst l22 y22 z22
      obtain ⟨rfl, N22q, e22⟩ := hQ22
      have N22 := Fr.app N21 N22q
      refine hG _ _ (fun t₀ k₀ => st22 _ k₀) ?_
      show G (T22.setTop (mkF m 573 #[.val (.int p1), .val (.int p2), .val (.int p3), .val (.int p4), .val (.int (p1 &&& (3 : Int32))), .val (.int (p2 &&& (2147483647 : Int32))), .val (.int cp), .val (.int nv), .val (.int ov), .val (.int fb), .val (.ref ob1), .val (.int nv), .val (.int b0), .val (.int c1), .val (.int c2), .val (.int c3), .val (.int (1 : Int32)), .val (.int dec)] [(.int (1 : Int32))]))
      refine hG _ (T22.setTop (mkF m 585 #[.val (.int p1), .val (.int p2), .val (.int p3), .val (.int p4), .val (.int (p1 &&& (3 : Int32))), .val (.int (p2 &&& (2147483647 : Int32))), .val (.int cp), .val (.int nv), .val (.int ov), .val (.int fb), .val (.ref ob1), .val (.int nv), .val (.int b0), .val (.int c1), .val (.int c2), .val (.int c3), .val (.int (1 : Int32)), .val (.int dec)] [(.int fb), (.int nv), (.int ov), (.int (5 : Int32)), (.ref ob1)])) (fun t₀ k₀ => ?_) ?_
      · show Steps p.tables e below (T22.setTop (mkF m 573 #[.val (.int p1), .val (.int p2), .val (.int p3), .val (.int p4), .val (.int (p1 &&& (3 : Int32))), .val (.int (p2 &&& (2147483647 : Int32))), .val (.int cp), .val (.int nv), .val (.int ov), .val (.int fb), .val (.ref ob1), .val (.int nv), .val (.int b0), .val (.int c1), .val (.int c2), .val (.int c3), .val (.int (1 : Int32)), .val (.int dec)] [(.int (1 : Int32))])) t₀
        refine XS.ifNo X22.here hx rfl (hb hby at_573) rfl ((if0 _ _).trans (feq (by decide : ¬ ((1 : Int32) = (0 : Int32)))).1) ?_
        show Steps p.tables e below (T22.setTop (mkF m 576 #[.val (.int p1), .val (.int p2), .val (.int p3), .val (.int p4), .val (.int (p1 &&& (3 : Int32))), .val (.int (p2 &&& (2147483647 : Int32))), .val (.int cp), .val (.int nv), .val (.int ov), .val (.int fb), .val (.ref ob1), .val (.int nv), .val (.int b0), .val (.int c1), .val (.int c2), .val (.int c3), .val (.int (1 : Int32)), .val (.int dec)] [])) t₀
        refine XS.aload X22.here hx rfl (hb hby at_576) rfl rfl ?_
        show Steps p.tables e below (T22.setTop (mkF m 578 #[.val (.int p1), .val (.int p2), .val (.int p3), .val (.int p4), .val (.int (p1 &&& (3 : Int32))), .val (.int (p2 &&& (2147483647 : Int32))), .val (.int cp), .val (.int nv), .val (.int ov), .val (.int fb), .val (.ref ob1), .val (.int nv), .val (.int b0), .val (.int c1), .val (.int c2), .val (.int c3), .val (.int (1 : Int32)), .val (.int dec)] [(.ref ob1)])) t₀
        refine XS.iconst X22.here hx rfl (hb hby at_578) ?_
        show Steps p.tables e below (T22.setTop (mkF m 579 #[.val (.int p1), .val (.int p2), .val (.int p3), .val (.int p4), .val (.int (p1 &&& (3 : Int32))), .val (.int (p2 &&& (2147483647 : Int32))), .val (.int cp), .val (.int nv), .val (.int ov), .val (.int fb), .val (.ref ob1), .val (.int nv), .val (.int b0), .val (.int c1), .val (.int c2), .val (.int c3), .val (.int (1 : Int32)), .val (.int dec)] [(.int (5 : Int32)), (.ref ob1)])) t₀
        refine XS.iload X22.here hx rfl (hb hby at_579) rfl ?_
        show Steps p.tables e below (T22.setTop (mkF m 581 #[.val (.int p1), .val (.int p2), .val (.int p3), .val (.int p4), .val (.int (p1 &&& (3 : Int32))), .val (.int (p2 &&& (2147483647 : Int32))), .val (.int cp), .val (.int nv), .val (.int ov), .val (.int fb), .val (.ref ob1), .val (.int nv), .val (.int b0), .val (.int c1), .val (.int c2), .val (.int c3), .val (.int (1 : Int32)), .val (.int dec)] [(.int ov), (.int (5 : Int32)), (.ref ob1)])) t₀
        refine XS.iload X22.here hx rfl (hb hby at_581) rfl ?_
        show Steps p.tables e below (T22.setTop (mkF m 583 #[.val (.int p1), .val (.int p2), .val (.int p3), .val (.int p4), .val (.int (p1 &&& (3 : Int32))), .val (.int (p2 &&& (2147483647 : Int32))), .val (.int cp), .val (.int nv), .val (.int ov), .val (.int fb), .val (.ref ob1), .val (.int nv), .val (.int b0), .val (.int c1), .val (.int c2), .val (.int c3), .val (.int (1 : Int32)), .val (.int dec)] [(.int nv), (.int ov), (.int (5 : Int32)), (.ref ob1)])) t₀
        refine XS.iload X22.here hx rfl (hb hby at_583) rfl ?_
        exact k₀
      obtain ⟨_, _, ⟨T23, L23, k23, n23⟩, -, X23, ⟨Lc23, hQ23, l23, y23, z23⟩, st23⟩ := Jvm.LawKit.callS X22 hx (y := (⟨"com/example/opledger/opledger/Utf8EncodePinLaw", "kept", "([BIIIB)Z"⟩ : MethodName)) hown (mvT hZ (hw _ (List.mem_of_getElem? (i := 8) rfl))) (mvT hZ (hw _ (List.mem_of_getElem? (i := 9) rfl))) (mvT hZ (hw _ (List.mem_of_getElem? (i := 10) rfl))) (mvT hZ (hw _ (List.mem_of_getElem? (i := 11) rfl))) (by decide) (backOf (W := 0) (rmK l Z a0 hw [] ob1 (5 : Int32) ov nv fb f hT n0 zT OT (by decide) (by decide) (hk (5 : Int32) (by decide))) hZ (hw _ (List.mem_of_getElem? (i := 11) rfl)) (hw _ (List.mem_of_getElem? (i := 10) rfl)) (by decide) (by decide)) (g := (mkF m 585 #[.val (.int p1), .val (.int p2), .val (.int p3), .val (.int p4), .val (.int (p1 &&& (3 : Int32))), .val (.int (p2 &&& (2147483647 : Int32))), .val (.int cp), .val (.int nv), .val (.int ov), .val (.int fb), .val (.ref ob1), .val (.int nv), .val (.int b0), .val (.int c1), .val (.int c2), .val (.int c3), .val (.int (1 : Int32)), .val (.int dec)] [(.int fb), (.int nv), (.int ov), (.int (5 : Int32)), (.ref ob1)])) rfl (by rw [hml]; rfl) (argsL := [(.ref ob1), (.int (5 : Int32)), (.int ov), (.int nv), (.int fb)]) (rest := []) (lenOf pd_1 rfl) rfl (by show 2 * 0 + _ ≤ _; exact Nat.le_of_eq rfl) (hb hby at_585) (fun _ _ => ⟨rfl, e22, (by decide : 1 + 0 ≤ _), (by decide : 8 + 0 ≤ _)⟩)
      dsimp only [Pt.U, Pt.locs, Pt.cells, Pt.slots] at X23 l23 y23 z23 st23 hQ23
      subst l23 y23 z23
      obtain ⟨rfl, N23q, e23⟩ := hQ23
      have N23 := Fr.app N22 N23q
      refine hG _ _ (fun t₀ k₀ => st23 _ k₀) ?_
      show G (T23.setTop (mkF m 588 #[.val (.int p1), .val (.int p2), .val (.int p3), .val (.int p4), .val (.int (p1 &&& (3 : Int32))), .val (.int (p2 &&& (2147483647 : Int32))), .val (.int cp), .val (.int nv), .val (.int ov), .val (.int fb), .val (.ref ob1), .val (.int nv), .val (.int b0), .val (.int c1), .val (.int c2), .val (.int c3), .val (.int (1 : Int32)), .val (.int dec)] [(.int (1 : Int32))]))
      refine hG _ (T23.setTop (mkF m 601 #[.val (.int p1), .val (.int p2), .val (.int p3), .val (.int p4), .val (.int (p1 &&& (3 : Int32))), .val (.int (p2 &&& (2147483647 : Int32))), .val (.int cp), .val (.int nv), .val (.int ov), .val (.int fb), .val (.ref ob1), .val (.int nv), .val (.int b0), .val (.int c1), .val (.int c2), .val (.int c3), .val (.int (1 : Int32)), .val (.int dec)] [(.int fb), (.int nv), (.int ov), (.int (6 : Int32)), (.ref ob1)])) (fun t₀ k₀ => ?_) ?_
      · show Steps p.tables e below (T23.setTop (mkF m 588 #[.val (.int p1), .val (.int p2), .val (.int p3), .val (.int p4), .val (.int (p1 &&& (3 : Int32))), .val (.int (p2 &&& (2147483647 : Int32))), .val (.int cp), .val (.int nv), .val (.int ov), .val (.int fb), .val (.ref ob1), .val (.int nv), .val (.int b0), .val (.int c1), .val (.int c2), .val (.int c3), .val (.int (1 : Int32)), .val (.int dec)] [(.int (1 : Int32))])) t₀
        refine XS.ifNo X23.here hx rfl (hb hby at_588) rfl ((if0 _ _).trans (feq (by decide : ¬ ((1 : Int32) = (0 : Int32)))).1) ?_
        show Steps p.tables e below (T23.setTop (mkF m 591 #[.val (.int p1), .val (.int p2), .val (.int p3), .val (.int p4), .val (.int (p1 &&& (3 : Int32))), .val (.int (p2 &&& (2147483647 : Int32))), .val (.int cp), .val (.int nv), .val (.int ov), .val (.int fb), .val (.ref ob1), .val (.int nv), .val (.int b0), .val (.int c1), .val (.int c2), .val (.int c3), .val (.int (1 : Int32)), .val (.int dec)] [])) t₀
        refine XS.aload X23.here hx rfl (hb hby at_591) rfl rfl ?_
        show Steps p.tables e below (T23.setTop (mkF m 593 #[.val (.int p1), .val (.int p2), .val (.int p3), .val (.int p4), .val (.int (p1 &&& (3 : Int32))), .val (.int (p2 &&& (2147483647 : Int32))), .val (.int cp), .val (.int nv), .val (.int ov), .val (.int fb), .val (.ref ob1), .val (.int nv), .val (.int b0), .val (.int c1), .val (.int c2), .val (.int c3), .val (.int (1 : Int32)), .val (.int dec)] [(.ref ob1)])) t₀
        refine XS.bipush X23.here hx rfl (hb hby at_593) ?_
        show Steps p.tables e below (T23.setTop (mkF m 595 #[.val (.int p1), .val (.int p2), .val (.int p3), .val (.int p4), .val (.int (p1 &&& (3 : Int32))), .val (.int (p2 &&& (2147483647 : Int32))), .val (.int cp), .val (.int nv), .val (.int ov), .val (.int fb), .val (.ref ob1), .val (.int nv), .val (.int b0), .val (.int c1), .val (.int c2), .val (.int c3), .val (.int (1 : Int32)), .val (.int dec)] [(.int (6 : Int32)), (.ref ob1)])) t₀
        refine XS.iload X23.here hx rfl (hb hby at_595) rfl ?_
        show Steps p.tables e below (T23.setTop (mkF m 597 #[.val (.int p1), .val (.int p2), .val (.int p3), .val (.int p4), .val (.int (p1 &&& (3 : Int32))), .val (.int (p2 &&& (2147483647 : Int32))), .val (.int cp), .val (.int nv), .val (.int ov), .val (.int fb), .val (.ref ob1), .val (.int nv), .val (.int b0), .val (.int c1), .val (.int c2), .val (.int c3), .val (.int (1 : Int32)), .val (.int dec)] [(.int ov), (.int (6 : Int32)), (.ref ob1)])) t₀
        refine XS.iload X23.here hx rfl (hb hby at_597) rfl ?_
        show Steps p.tables e below (T23.setTop (mkF m 599 #[.val (.int p1), .val (.int p2), .val (.int p3), .val (.int p4), .val (.int (p1 &&& (3 : Int32))), .val (.int (p2 &&& (2147483647 : Int32))), .val (.int cp), .val (.int nv), .val (.int ov), .val (.int fb), .val (.ref ob1), .val (.int nv), .val (.int b0), .val (.int c1), .val (.int c2), .val (.int c3), .val (.int (1 : Int32)), .val (.int dec)] [(.int nv), (.int ov), (.int (6 : Int32)), (.ref ob1)])) t₀
        refine XS.iload X23.here hx rfl (hb hby at_599) rfl ?_
        exact k₀
      obtain ⟨_, _, ⟨T24, L24, k24, n24⟩, -, X24, ⟨Lc24, hQ24, l24, y24, z24⟩, st24⟩ := Jvm.LawKit.callS X23 hx (y := (⟨"com/example/opledger/opledger/Utf8EncodePinLaw", "kept", "([BIIIB)Z"⟩ : MethodName)) hown (mvT hZ (hw _ (List.mem_of_getElem? (i := 8) rfl))) (mvT hZ (hw _ (List.mem_of_getElem? (i := 9) rfl))) (mvT hZ (hw _ (List.mem_of_getElem? (i := 10) rfl))) (mvT hZ (hw _ (List.mem_of_getElem? (i := 11) rfl))) (by decide) (backOf (W := 0) (rmK l Z a0 hw [] ob1 (6 : Int32) ov nv fb f hT n0 zT OT (by decide) (by decide) (hk (6 : Int32) (by decide))) hZ (hw _ (List.mem_of_getElem? (i := 11) rfl)) (hw _ (List.mem_of_getElem? (i := 10) rfl)) (by decide) (by decide)) (g := (mkF m 601 #[.val (.int p1), .val (.int p2), .val (.int p3), .val (.int p4), .val (.int (p1 &&& (3 : Int32))), .val (.int (p2 &&& (2147483647 : Int32))), .val (.int cp), .val (.int nv), .val (.int ov), .val (.int fb), .val (.ref ob1), .val (.int nv), .val (.int b0), .val (.int c1), .val (.int c2), .val (.int c3), .val (.int (1 : Int32)), .val (.int dec)] [(.int fb), (.int nv), (.int ov), (.int (6 : Int32)), (.ref ob1)])) rfl (by rw [hml]; rfl) (argsL := [(.ref ob1), (.int (6 : Int32)), (.int ov), (.int nv), (.int fb)]) (rest := []) (lenOf pd_1 rfl) rfl (by show 2 * 0 + _ ≤ _; exact Nat.le_of_eq rfl) (hb hby at_601) (fun _ _ => ⟨rfl, e23, (by decide : 1 + 0 ≤ _), (by decide : 8 + 0 ≤ _)⟩)
      dsimp only [Pt.U, Pt.locs, Pt.cells, Pt.slots] at X24 l24 y24 z24 st24 hQ24
      subst l24 y24 z24
      obtain ⟨rfl, N24q, e24⟩ := hQ24
      have N24 := Fr.app N23 N24q
      refine hG _ _ (fun t₀ k₀ => st24 _ k₀) ?_
      show G (T24.setTop (mkF m 604 #[.val (.int p1), .val (.int p2), .val (.int p3), .val (.int p4), .val (.int (p1 &&& (3 : Int32))), .val (.int (p2 &&& (2147483647 : Int32))), .val (.int cp), .val (.int nv), .val (.int ov), .val (.int fb), .val (.ref ob1), .val (.int nv), .val (.int b0), .val (.int c1), .val (.int c2), .val (.int c3), .val (.int (1 : Int32)), .val (.int dec)] [(.int (1 : Int32))]))
      refine hG _ (T24.setTop (mkF m 617 #[.val (.int p1), .val (.int p2), .val (.int p3), .val (.int p4), .val (.int (p1 &&& (3 : Int32))), .val (.int (p2 &&& (2147483647 : Int32))), .val (.int cp), .val (.int nv), .val (.int ov), .val (.int fb), .val (.ref ob1), .val (.int nv), .val (.int b0), .val (.int c1), .val (.int c2), .val (.int c3), .val (.int (1 : Int32)), .val (.int dec)] [(.int fb), (.int nv), (.int ov), (.int (7 : Int32)), (.ref ob1)])) (fun t₀ k₀ => ?_) ?_
      · show Steps p.tables e below (T24.setTop (mkF m 604 #[.val (.int p1), .val (.int p2), .val (.int p3), .val (.int p4), .val (.int (p1 &&& (3 : Int32))), .val (.int (p2 &&& (2147483647 : Int32))), .val (.int cp), .val (.int nv), .val (.int ov), .val (.int fb), .val (.ref ob1), .val (.int nv), .val (.int b0), .val (.int c1), .val (.int c2), .val (.int c3), .val (.int (1 : Int32)), .val (.int dec)] [(.int (1 : Int32))])) t₀
        refine XS.ifNo X24.here hx rfl (hb hby at_604) rfl ((if0 _ _).trans (feq (by decide : ¬ ((1 : Int32) = (0 : Int32)))).1) ?_
        show Steps p.tables e below (T24.setTop (mkF m 607 #[.val (.int p1), .val (.int p2), .val (.int p3), .val (.int p4), .val (.int (p1 &&& (3 : Int32))), .val (.int (p2 &&& (2147483647 : Int32))), .val (.int cp), .val (.int nv), .val (.int ov), .val (.int fb), .val (.ref ob1), .val (.int nv), .val (.int b0), .val (.int c1), .val (.int c2), .val (.int c3), .val (.int (1 : Int32)), .val (.int dec)] [])) t₀
        refine XS.aload X24.here hx rfl (hb hby at_607) rfl rfl ?_
        show Steps p.tables e below (T24.setTop (mkF m 609 #[.val (.int p1), .val (.int p2), .val (.int p3), .val (.int p4), .val (.int (p1 &&& (3 : Int32))), .val (.int (p2 &&& (2147483647 : Int32))), .val (.int cp), .val (.int nv), .val (.int ov), .val (.int fb), .val (.ref ob1), .val (.int nv), .val (.int b0), .val (.int c1), .val (.int c2), .val (.int c3), .val (.int (1 : Int32)), .val (.int dec)] [(.ref ob1)])) t₀
        refine XS.bipush X24.here hx rfl (hb hby at_609) ?_
        show Steps p.tables e below (T24.setTop (mkF m 611 #[.val (.int p1), .val (.int p2), .val (.int p3), .val (.int p4), .val (.int (p1 &&& (3 : Int32))), .val (.int (p2 &&& (2147483647 : Int32))), .val (.int cp), .val (.int nv), .val (.int ov), .val (.int fb), .val (.ref ob1), .val (.int nv), .val (.int b0), .val (.int c1), .val (.int c2), .val (.int c3), .val (.int (1 : Int32)), .val (.int dec)] [(.int (7 : Int32)), (.ref ob1)])) t₀
        refine XS.iload X24.here hx rfl (hb hby at_611) rfl ?_
        show Steps p.tables e below (T24.setTop (mkF m 613 #[.val (.int p1), .val (.int p2), .val (.int p3), .val (.int p4), .val (.int (p1 &&& (3 : Int32))), .val (.int (p2 &&& (2147483647 : Int32))), .val (.int cp), .val (.int nv), .val (.int ov), .val (.int fb), .val (.ref ob1), .val (.int nv), .val (.int b0), .val (.int c1), .val (.int c2), .val (.int c3), .val (.int (1 : Int32)), .val (.int dec)] [(.int ov), (.int (7 : Int32)), (.ref ob1)])) t₀
        refine XS.iload X24.here hx rfl (hb hby at_613) rfl ?_
        show Steps p.tables e below (T24.setTop (mkF m 615 #[.val (.int p1), .val (.int p2), .val (.int p3), .val (.int p4), .val (.int (p1 &&& (3 : Int32))), .val (.int (p2 &&& (2147483647 : Int32))), .val (.int cp), .val (.int nv), .val (.int ov), .val (.int fb), .val (.ref ob1), .val (.int nv), .val (.int b0), .val (.int c1), .val (.int c2), .val (.int c3), .val (.int (1 : Int32)), .val (.int dec)] [(.int nv), (.int ov), (.int (7 : Int32)), (.ref ob1)])) t₀
        refine XS.iload X24.here hx rfl (hb hby at_615) rfl ?_
        exact k₀
      obtain ⟨_, _, ⟨T25, L25, k25, n25⟩, -, X25, ⟨Lc25, hQ25, l25, y25, z25⟩, st25⟩ := Jvm.LawKit.callS X24 hx (y := (⟨"com/example/opledger/opledger/Utf8EncodePinLaw", "kept", "([BIIIB)Z"⟩ : MethodName)) hown (mvT hZ (hw _ (List.mem_of_getElem? (i := 8) rfl))) (mvT hZ (hw _ (List.mem_of_getElem? (i := 9) rfl))) (mvT hZ (hw _ (List.mem_of_getElem? (i := 10) rfl))) (mvT hZ (hw _ (List.mem_of_getElem? (i := 11) rfl))) (by decide) (backOf (W := 0) (rmK l Z a0 hw [] ob1 (7 : Int32) ov nv fb f hT n0 zT OT (by decide) (by decide) (hk (7 : Int32) (by decide))) hZ (hw _ (List.mem_of_getElem? (i := 11) rfl)) (hw _ (List.mem_of_getElem? (i := 10) rfl)) (by decide) (by decide)) (g := (mkF m 617 #[.val (.int p1), .val (.int p2), .val (.int p3), .val (.int p4), .val (.int (p1 &&& (3 : Int32))), .val (.int (p2 &&& (2147483647 : Int32))), .val (.int cp), .val (.int nv), .val (.int ov), .val (.int fb), .val (.ref ob1), .val (.int nv), .val (.int b0), .val (.int c1), .val (.int c2), .val (.int c3), .val (.int (1 : Int32)), .val (.int dec)] [(.int fb), (.int nv), (.int ov), (.int (7 : Int32)), (.ref ob1)])) rfl (by rw [hml]; rfl) (argsL := [(.ref ob1), (.int (7 : Int32)), (.int ov), (.int nv), (.int fb)]) (rest := []) (lenOf pd_1 rfl) rfl (by show 2 * 0 + _ ≤ _; exact Nat.le_of_eq rfl) (hb hby at_617) (fun _ _ => ⟨rfl, e24, (by decide : 1 + 0 ≤ _), (by decide : 8 + 0 ≤ _)⟩)
      dsimp only [Pt.U, Pt.locs, Pt.cells, Pt.slots] at X25 l25 y25 z25 st25 hQ25
      subst l25 y25 z25
      obtain ⟨rfl, N25q, e25⟩ := hQ25
      have N25 := Fr.app N24 N25q
      refine hG _ _ (fun t₀ k₀ => st25 _ k₀) ?_
      show G (T25.setTop (mkF m 620 #[.val (.int p1), .val (.int p2), .val (.int p3), .val (.int p4), .val (.int (p1 &&& (3 : Int32))), .val (.int (p2 &&& (2147483647 : Int32))), .val (.int cp), .val (.int nv), .val (.int ov), .val (.int fb), .val (.ref ob1), .val (.int nv), .val (.int b0), .val (.int c1), .val (.int c2), .val (.int c3), .val (.int (1 : Int32)), .val (.int dec)] [(.int (1 : Int32))]))
      refine hG _ (T25.setTop (mkF m 628 #[.val (.int p1), .val (.int p2), .val (.int p3), .val (.int p4), .val (.int (p1 &&& (3 : Int32))), .val (.int (p2 &&& (2147483647 : Int32))), .val (.int cp), .val (.int nv), .val (.int ov), .val (.int fb), .val (.ref ob1), .val (.int nv), .val (.int b0), .val (.int c1), .val (.int c2), .val (.int c3), .val (.int (1 : Int32)), .val (.int dec)] [(.int (1 : Int32))])) (fun t₀ k₀ => ?_) ?_
      · show Steps p.tables e below (T25.setTop (mkF m 620 #[.val (.int p1), .val (.int p2), .val (.int p3), .val (.int p4), .val (.int (p1 &&& (3 : Int32))), .val (.int (p2 &&& (2147483647 : Int32))), .val (.int cp), .val (.int nv), .val (.int ov), .val (.int fb), .val (.ref ob1), .val (.int nv), .val (.int b0), .val (.int c1), .val (.int c2), .val (.int c3), .val (.int (1 : Int32)), .val (.int dec)] [(.int (1 : Int32))])) t₀
        refine XS.ifNo X25.here hx rfl (hb hby at_620) rfl ((if0 _ _).trans (feq (by decide : ¬ ((1 : Int32) = (0 : Int32)))).1) ?_
        show Steps p.tables e below (T25.setTop (mkF m 623 #[.val (.int p1), .val (.int p2), .val (.int p3), .val (.int p4), .val (.int (p1 &&& (3 : Int32))), .val (.int (p2 &&& (2147483647 : Int32))), .val (.int cp), .val (.int nv), .val (.int ov), .val (.int fb), .val (.ref ob1), .val (.int nv), .val (.int b0), .val (.int c1), .val (.int c2), .val (.int c3), .val (.int (1 : Int32)), .val (.int dec)] [])) t₀
        refine XS.iconst X25.here hx rfl (hb hby at_623) ?_
        show Steps p.tables e below (T25.setTop (mkF m 624 #[.val (.int p1), .val (.int p2), .val (.int p3), .val (.int p4), .val (.int (p1 &&& (3 : Int32))), .val (.int (p2 &&& (2147483647 : Int32))), .val (.int cp), .val (.int nv), .val (.int ov), .val (.int fb), .val (.ref ob1), .val (.int nv), .val (.int b0), .val (.int c1), .val (.int c2), .val (.int c3), .val (.int (1 : Int32)), .val (.int dec)] [(.int (1 : Int32))])) t₀
        refine XS.goto X25.here hx rfl (pc0 := 624) (pc' := 628) rfl (hb hby at_624) (by decide) (by decide) ?_
        exact k₀
      refine hF _ T25 _ _ _ (some (.int (1 : Int32))) _ X25 e25 (fun h => by rw [hrt] at h; cases h) (by decide) (by decide) ?_ (fun fs hr => retN X25 hx (t := .boolean) hrt (by simp) (hb hby at_628) hr)
      exact ⟨rfl, N25⟩
    rcases hW with hW | hW | hW | hW
    ·
      obtain ⟨hwt, hl, hu⟩ := hW
      subst hwt
      show G (T17.setTop (mkF m 167 #[.val (.int p1), .val (.int p2), .val (.int p3), .val (.int p4), .val (.int (p1 &&& (3 : Int32))), .val (.int (p2 &&& (2147483647 : Int32))), .val (.int cp), .val (.int (1 : Int32)), .val (.int ov), .val (.int fb), .val (.ref ob1), .unset, .unset, .unset, .unset, .unset, .unset, .unset] []))
      refine hG _ (T17.setTop (mkF m 173 #[.val (.int p1), .val (.int p2), .val (.int p3), .val (.int p4), .val (.int (p1 &&& (3 : Int32))), .val (.int (p2 &&& (2147483647 : Int32))), .val (.int cp), .val (.int (1 : Int32)), .val (.int ov), .val (.int fb), .val (.ref ob1), .unset, .unset, .unset, .unset, .unset, .unset, .unset] [(.int ov), (.ref ob1), (.int cp)])) (fun t₀ k₀ => ?_) ?_
      · show Steps p.tables e below (T17.setTop (mkF m 167 #[.val (.int p1), .val (.int p2), .val (.int p3), .val (.int p4), .val (.int (p1 &&& (3 : Int32))), .val (.int (p2 &&& (2147483647 : Int32))), .val (.int cp), .val (.int (1 : Int32)), .val (.int ov), .val (.int fb), .val (.ref ob1), .unset, .unset, .unset, .unset, .unset, .unset, .unset] [])) t₀
        refine XS.iload X17.here hx rfl (hb hby at_167) rfl ?_
        show Steps p.tables e below (T17.setTop (mkF m 169 #[.val (.int p1), .val (.int p2), .val (.int p3), .val (.int p4), .val (.int (p1 &&& (3 : Int32))), .val (.int (p2 &&& (2147483647 : Int32))), .val (.int cp), .val (.int (1 : Int32)), .val (.int ov), .val (.int fb), .val (.ref ob1), .unset, .unset, .unset, .unset, .unset, .unset, .unset] [(.int cp)])) t₀
        refine XS.aload X17.here hx rfl (hb hby at_169) rfl rfl ?_
        show Steps p.tables e below (T17.setTop (mkF m 171 #[.val (.int p1), .val (.int p2), .val (.int p3), .val (.int p4), .val (.int (p1 &&& (3 : Int32))), .val (.int (p2 &&& (2147483647 : Int32))), .val (.int cp), .val (.int (1 : Int32)), .val (.int ov), .val (.int fb), .val (.ref ob1), .unset, .unset, .unset, .unset, .unset, .unset, .unset] [(.ref ob1), (.int cp)])) t₀
        refine XS.iload X17.here hx rfl (hb hby at_171) rfl ?_
        exact k₀
      obtain ⟨_, _, ⟨T26, L26, k26, n26⟩, -, X26, ⟨Lc26, hQ26, l26, y26, z26⟩, st26⟩ := Jvm.LawKit.callS X17 hx (y := (⟨"com/example/opledger/opledger/Utf8", "encode", "(I[BI)I"⟩ : MethodName)) hown (mvT hZ (hw _ (List.mem_of_getElem? (i := 2) rfl))) (mvT hZ (hw _ (List.mem_of_getElem? (i := 3) rfl))) (mvT hZ (hw _ (List.mem_of_getElem? (i := 4) rfl))) (mvT hZ (hw _ (List.mem_of_getElem? (i := 5) rfl))) (by decide) (backOf (W := 0) (rmE1 l Z a0 hw [] cp ob1 ov fb wL kL h17 n0 z_17 o_x17 S_LEAD VL g_ob1 OB hl hu ho1 ho2) hZ (hw _ (List.mem_of_getElem? (i := 5) rfl)) (hw _ (List.mem_of_getElem? (i := 4) rfl)) (by decide) (by decide)) (g := (mkF m 173 #[.val (.int p1), .val (.int p2), .val (.int p3), .val (.int p4), .val (.int (p1 &&& (3 : Int32))), .val (.int (p2 &&& (2147483647 : Int32))), .val (.int cp), .val (.int (1 : Int32)), .val (.int ov), .val (.int fb), .val (.ref ob1), .unset, .unset, .unset, .unset, .unset, .unset, .unset] [(.int ov), (.ref ob1), (.int cp)])) rfl (by rw [hml]; rfl) (argsL := [(.int cp), (.ref ob1), (.int ov)]) (rest := []) (lenOf pd_0 rfl) rfl (by show 2 * 0 + _ ≤ _; exact Nat.le_of_eq rfl) (hb hby at_173) (fun _ _ => ⟨rfl, e17, (by decide : 1 + 0 ≤ _), (by decide : 8 + 0 ≤ _)⟩)
      dsimp only [Pt.U, Pt.locs, Pt.cells, Pt.slots] at X26 l26 y26 z26 st26 hQ26
      subst l26 y26 z26
      obtain ⟨f26, rfl, N26q, K26, B26, y026, hk26⟩ := hQ26
      have N26 := Fr.app N17 N26q
      refine hG _ _ (fun t₀ k₀ => st26 _ k₀) ?_
      have z_x26 := Nat.le_trans z_17 K26.1
      have o_x26 := o_x17.keep K26 (allS g_ob1 all0)
      show G (T26.setTop (mkF m 176 #[.val (.int p1), .val (.int p2), .val (.int p3), .val (.int p4), .val (.int (p1 &&& (3 : Int32))), .val (.int (p2 &&& (2147483647 : Int32))), .val (.int cp), .val (.int (1 : Int32)), .val (.int ov), .val (.int fb), .val (.ref ob1), .unset, .unset, .unset, .unset, .unset, .unset, .unset] [(.int (1 : Int32))]))
      refine hG _ (T26.setTop (mkF m 191 #[.val (.int p1), .val (.int p2), .val (.int p3), .val (.int p4), .val (.int (p1 &&& (3 : Int32))), .val (.int (p2 &&& (2147483647 : Int32))), .val (.int cp), .val (.int (1 : Int32)), .val (.int ov), .val (.int fb), .val (.ref ob1), .val (.int (1 : Int32)), .unset, .unset, .unset, .unset, .unset, .unset] [(.int ov), (.ref ob1)])) (fun t₀ k₀ => ?_) ?_
      · show Steps p.tables e below (T26.setTop (mkF m 176 #[.val (.int p1), .val (.int p2), .val (.int p3), .val (.int p4), .val (.int (p1 &&& (3 : Int32))), .val (.int (p2 &&& (2147483647 : Int32))), .val (.int cp), .val (.int (1 : Int32)), .val (.int ov), .val (.int fb), .val (.ref ob1), .unset, .unset, .unset, .unset, .unset, .unset, .unset] [(.int (1 : Int32))])) t₀
        refine XS.istore X26.here hx rfl (hb hby at_176) rfl (l' := #[.val (.int p1), .val (.int p2), .val (.int p3), .val (.int p4), .val (.int (p1 &&& (3 : Int32))), .val (.int (p2 &&& (2147483647 : Int32))), .val (.int cp), .val (.int (1 : Int32)), .val (.int ov), .val (.int fb), .val (.ref ob1), .val (.int (1 : Int32)), .unset, .unset, .unset, .unset, .unset, .unset]) rfl ?_
        show Steps p.tables e below (T26.setTop (mkF m 178 #[.val (.int p1), .val (.int p2), .val (.int p3), .val (.int p4), .val (.int (p1 &&& (3 : Int32))), .val (.int (p2 &&& (2147483647 : Int32))), .val (.int cp), .val (.int (1 : Int32)), .val (.int ov), .val (.int fb), .val (.ref ob1), .val (.int (1 : Int32)), .unset, .unset, .unset, .unset, .unset, .unset] [])) t₀
        refine XS.iload X26.here hx rfl (hb hby at_178) rfl ?_
        show Steps p.tables e below (T26.setTop (mkF m 180 #[.val (.int p1), .val (.int p2), .val (.int p3), .val (.int p4), .val (.int (p1 &&& (3 : Int32))), .val (.int (p2 &&& (2147483647 : Int32))), .val (.int cp), .val (.int (1 : Int32)), .val (.int ov), .val (.int fb), .val (.ref ob1), .val (.int (1 : Int32)), .unset, .unset, .unset, .unset, .unset, .unset] [(.int (1 : Int32))])) t₀
        refine XS.iload X26.here hx rfl (hb hby at_180) rfl ?_
        show Steps p.tables e below (T26.setTop (mkF m 182 #[.val (.int p1), .val (.int p2), .val (.int p3), .val (.int p4), .val (.int (p1 &&& (3 : Int32))), .val (.int (p2 &&& (2147483647 : Int32))), .val (.int cp), .val (.int (1 : Int32)), .val (.int ov), .val (.int fb), .val (.ref ob1), .val (.int (1 : Int32)), .unset, .unset, .unset, .unset, .unset, .unset] [(.int (1 : Int32)), (.int (1 : Int32))])) t₀
        refine XS.icmpYes X26.here hx rfl (pc0 := 182) (pc' := 187) rfl (hb hby at_182) rfl (teq (by decide : ((1 : Int32) = (1 : Int32)))).1 (by decide) (by decide) ?_
        show Steps p.tables e below (T26.setTop (mkF m 187 #[.val (.int p1), .val (.int p2), .val (.int p3), .val (.int p4), .val (.int (p1 &&& (3 : Int32))), .val (.int (p2 &&& (2147483647 : Int32))), .val (.int cp), .val (.int (1 : Int32)), .val (.int ov), .val (.int fb), .val (.ref ob1), .val (.int (1 : Int32)), .unset, .unset, .unset, .unset, .unset, .unset] [])) t₀
        refine XS.aload X26.here hx rfl (hb hby at_187) rfl rfl ?_
        show Steps p.tables e below (T26.setTop (mkF m 189 #[.val (.int p1), .val (.int p2), .val (.int p3), .val (.int p4), .val (.int (p1 &&& (3 : Int32))), .val (.int (p2 &&& (2147483647 : Int32))), .val (.int cp), .val (.int (1 : Int32)), .val (.int ov), .val (.int fb), .val (.ref ob1), .val (.int (1 : Int32)), .unset, .unset, .unset, .unset, .unset, .unset] [(.ref ob1)])) t₀
        refine XS.iload X26.here hx rfl (hb hby at_189) rfl ?_
        exact k₀
      have Bc27 := B26
      obtain ⟨cl27, Ar27, sz27, Hf27⟩ := Bc27
      have hin27 := own_inb (j := ov) sz27 (by omega) (by omega)
      have hat27 : cl27.slots[(ov).toNatClampNeg]? = some (.int (f26 (ov.toNatClampNeg))) := Hf27 _ (by have q := own_nat ho1; omega)
      refine hG _ (T26.setTop (mkF m 204 #[.val (.int p1), .val (.int p2), .val (.int p3), .val (.int p4), .val (.int (p1 &&& (3 : Int32))), .val (.int (p2 &&& (2147483647 : Int32))), .val (.int cp), .val (.int (1 : Int32)), .val (.int ov), .val (.int fb), .val (.ref ob1), .val (.int (1 : Int32)), .val (.int ((f26 (ov.toNatClampNeg)) &&& (255 : Int32))), .unset, .unset, .unset, .unset, .unset] [(.int (ov + (1 : Int32))), (.ref ob1)])) (fun t₀ k₀ => ?_) ?_
      · show Steps p.tables e below (T26.setTop (mkF m 191 #[.val (.int p1), .val (.int p2), .val (.int p3), .val (.int p4), .val (.int (p1 &&& (3 : Int32))), .val (.int (p2 &&& (2147483647 : Int32))), .val (.int cp), .val (.int (1 : Int32)), .val (.int ov), .val (.int fb), .val (.ref ob1), .val (.int (1 : Int32)), .unset, .unset, .unset, .unset, .unset, .unset] [(.int ov), (.ref ob1)])) t₀
        refine X26.baloadBytes hx (j := ov) (v := .int (f26 (ov.toNatClampNeg))) Ar27.1 (State.isArrayOf_alike hZ.alike Ar27.2.1) Ar27.2.2 hin27 hat27 (g := (mkF m 191 #[.val (.int p1), .val (.int p2), .val (.int p3), .val (.int p4), .val (.int (p1 &&& (3 : Int32))), .val (.int (p2 &&& (2147483647 : Int32))), .val (.int cp), .val (.int (1 : Int32)), .val (.int ov), .val (.int fb), .val (.ref ob1), .val (.int (1 : Int32)), .unset, .unset, .unset, .unset, .unset, .unset] [(.int ov), (.ref ob1)])) rfl rfl (hb hby at_191) _ ?_
        show Steps p.tables e below (T26.setTop (mkF m 192 #[.val (.int p1), .val (.int p2), .val (.int p3), .val (.int p4), .val (.int (p1 &&& (3 : Int32))), .val (.int (p2 &&& (2147483647 : Int32))), .val (.int cp), .val (.int (1 : Int32)), .val (.int ov), .val (.int fb), .val (.ref ob1), .val (.int (1 : Int32)), .unset, .unset, .unset, .unset, .unset, .unset] [(.int (f26 (ov.toNatClampNeg)))])) t₀
        refine XS.sipush X26.here hx rfl (hb hby at_192) ?_
        show Steps p.tables e below (T26.setTop (mkF m 195 #[.val (.int p1), .val (.int p2), .val (.int p3), .val (.int p4), .val (.int (p1 &&& (3 : Int32))), .val (.int (p2 &&& (2147483647 : Int32))), .val (.int cp), .val (.int (1 : Int32)), .val (.int ov), .val (.int fb), .val (.ref ob1), .val (.int (1 : Int32)), .unset, .unset, .unset, .unset, .unset, .unset] [(.int (255 : Int32)), (.int (f26 (ov.toNatClampNeg)))])) t₀
        refine XS.iand X26.here hx rfl (hb hby at_195) rfl ?_
        show Steps p.tables e below (T26.setTop (mkF m 196 #[.val (.int p1), .val (.int p2), .val (.int p3), .val (.int p4), .val (.int (p1 &&& (3 : Int32))), .val (.int (p2 &&& (2147483647 : Int32))), .val (.int cp), .val (.int (1 : Int32)), .val (.int ov), .val (.int fb), .val (.ref ob1), .val (.int (1 : Int32)), .unset, .unset, .unset, .unset, .unset, .unset] [(.int ((f26 (ov.toNatClampNeg)) &&& (255 : Int32)))])) t₀
        refine XS.istore X26.here hx rfl (hb hby at_196) rfl (l' := #[.val (.int p1), .val (.int p2), .val (.int p3), .val (.int p4), .val (.int (p1 &&& (3 : Int32))), .val (.int (p2 &&& (2147483647 : Int32))), .val (.int cp), .val (.int (1 : Int32)), .val (.int ov), .val (.int fb), .val (.ref ob1), .val (.int (1 : Int32)), .val (.int ((f26 (ov.toNatClampNeg)) &&& (255 : Int32))), .unset, .unset, .unset, .unset, .unset]) rfl ?_
        show Steps p.tables e below (T26.setTop (mkF m 198 #[.val (.int p1), .val (.int p2), .val (.int p3), .val (.int p4), .val (.int (p1 &&& (3 : Int32))), .val (.int (p2 &&& (2147483647 : Int32))), .val (.int cp), .val (.int (1 : Int32)), .val (.int ov), .val (.int fb), .val (.ref ob1), .val (.int (1 : Int32)), .val (.int ((f26 (ov.toNatClampNeg)) &&& (255 : Int32))), .unset, .unset, .unset, .unset, .unset] [])) t₀
        refine XS.aload X26.here hx rfl (hb hby at_198) rfl rfl ?_
        show Steps p.tables e below (T26.setTop (mkF m 200 #[.val (.int p1), .val (.int p2), .val (.int p3), .val (.int p4), .val (.int (p1 &&& (3 : Int32))), .val (.int (p2 &&& (2147483647 : Int32))), .val (.int cp), .val (.int (1 : Int32)), .val (.int ov), .val (.int fb), .val (.ref ob1), .val (.int (1 : Int32)), .val (.int ((f26 (ov.toNatClampNeg)) &&& (255 : Int32))), .unset, .unset, .unset, .unset, .unset] [(.ref ob1)])) t₀
        refine XS.iload X26.here hx rfl (hb hby at_200) rfl ?_
        show Steps p.tables e below (T26.setTop (mkF m 202 #[.val (.int p1), .val (.int p2), .val (.int p3), .val (.int p4), .val (.int (p1 &&& (3 : Int32))), .val (.int (p2 &&& (2147483647 : Int32))), .val (.int cp), .val (.int (1 : Int32)), .val (.int ov), .val (.int fb), .val (.ref ob1), .val (.int (1 : Int32)), .val (.int ((f26 (ov.toNatClampNeg)) &&& (255 : Int32))), .unset, .unset, .unset, .unset, .unset] [(.int ov), (.ref ob1)])) t₀
        refine XS.iconst X26.here hx rfl (hb hby at_202) ?_
        show Steps p.tables e below (T26.setTop (mkF m 203 #[.val (.int p1), .val (.int p2), .val (.int p3), .val (.int p4), .val (.int (p1 &&& (3 : Int32))), .val (.int (p2 &&& (2147483647 : Int32))), .val (.int cp), .val (.int (1 : Int32)), .val (.int ov), .val (.int fb), .val (.ref ob1), .val (.int (1 : Int32)), .val (.int ((f26 (ov.toNatClampNeg)) &&& (255 : Int32))), .unset, .unset, .unset, .unset, .unset] [(.int (1 : Int32)), (.int ov), (.ref ob1)])) t₀
        refine XS.iadd X26.here hx rfl (hb hby at_203) rfl ?_
        exact k₀
      have Bc28 := B26
      obtain ⟨cl28, Ar28, sz28, Hf28⟩ := Bc28
      have ix1 := own_ix (ov := ov) (1 : Int32) 1 rfl (by decide) ho1 ho2
      have hin28 := own_inb (j := (ov + (1 : Int32))) sz28 (by omega) (by omega)
      have hat28 : cl28.slots[((ov + (1 : Int32))).toNatClampNeg]? = some (.int (f26 (ov.toNatClampNeg + 1))) := by rw [ix1.1]; exact Hf28 _ (by have q := own_nat ho1; omega)
      refine hG _ (T26.setTop (mkF m 217 #[.val (.int p1), .val (.int p2), .val (.int p3), .val (.int p4), .val (.int (p1 &&& (3 : Int32))), .val (.int (p2 &&& (2147483647 : Int32))), .val (.int cp), .val (.int (1 : Int32)), .val (.int ov), .val (.int fb), .val (.ref ob1), .val (.int (1 : Int32)), .val (.int ((f26 (ov.toNatClampNeg)) &&& (255 : Int32))), .val (.int ((f26 (ov.toNatClampNeg + 1)) &&& (255 : Int32))), .unset, .unset, .unset, .unset] [(.int (ov + (2 : Int32))), (.ref ob1)])) (fun t₀ k₀ => ?_) ?_
      · show Steps p.tables e below (T26.setTop (mkF m 204 #[.val (.int p1), .val (.int p2), .val (.int p3), .val (.int p4), .val (.int (p1 &&& (3 : Int32))), .val (.int (p2 &&& (2147483647 : Int32))), .val (.int cp), .val (.int (1 : Int32)), .val (.int ov), .val (.int fb), .val (.ref ob1), .val (.int (1 : Int32)), .val (.int ((f26 (ov.toNatClampNeg)) &&& (255 : Int32))), .unset, .unset, .unset, .unset, .unset] [(.int (ov + (1 : Int32))), (.ref ob1)])) t₀
        refine X26.baloadBytes hx (j := (ov + (1 : Int32))) (v := .int (f26 (ov.toNatClampNeg + 1))) Ar28.1 (State.isArrayOf_alike hZ.alike Ar28.2.1) Ar28.2.2 hin28 hat28 (g := (mkF m 204 #[.val (.int p1), .val (.int p2), .val (.int p3), .val (.int p4), .val (.int (p1 &&& (3 : Int32))), .val (.int (p2 &&& (2147483647 : Int32))), .val (.int cp), .val (.int (1 : Int32)), .val (.int ov), .val (.int fb), .val (.ref ob1), .val (.int (1 : Int32)), .val (.int ((f26 (ov.toNatClampNeg)) &&& (255 : Int32))), .unset, .unset, .unset, .unset, .unset] [(.int (ov + (1 : Int32))), (.ref ob1)])) rfl rfl (hb hby at_204) _ ?_
        show Steps p.tables e below (T26.setTop (mkF m 205 #[.val (.int p1), .val (.int p2), .val (.int p3), .val (.int p4), .val (.int (p1 &&& (3 : Int32))), .val (.int (p2 &&& (2147483647 : Int32))), .val (.int cp), .val (.int (1 : Int32)), .val (.int ov), .val (.int fb), .val (.ref ob1), .val (.int (1 : Int32)), .val (.int ((f26 (ov.toNatClampNeg)) &&& (255 : Int32))), .unset, .unset, .unset, .unset, .unset] [(.int (f26 (ov.toNatClampNeg + 1)))])) t₀
        refine XS.sipush X26.here hx rfl (hb hby at_205) ?_
        show Steps p.tables e below (T26.setTop (mkF m 208 #[.val (.int p1), .val (.int p2), .val (.int p3), .val (.int p4), .val (.int (p1 &&& (3 : Int32))), .val (.int (p2 &&& (2147483647 : Int32))), .val (.int cp), .val (.int (1 : Int32)), .val (.int ov), .val (.int fb), .val (.ref ob1), .val (.int (1 : Int32)), .val (.int ((f26 (ov.toNatClampNeg)) &&& (255 : Int32))), .unset, .unset, .unset, .unset, .unset] [(.int (255 : Int32)), (.int (f26 (ov.toNatClampNeg + 1)))])) t₀
        refine XS.iand X26.here hx rfl (hb hby at_208) rfl ?_
        show Steps p.tables e below (T26.setTop (mkF m 209 #[.val (.int p1), .val (.int p2), .val (.int p3), .val (.int p4), .val (.int (p1 &&& (3 : Int32))), .val (.int (p2 &&& (2147483647 : Int32))), .val (.int cp), .val (.int (1 : Int32)), .val (.int ov), .val (.int fb), .val (.ref ob1), .val (.int (1 : Int32)), .val (.int ((f26 (ov.toNatClampNeg)) &&& (255 : Int32))), .unset, .unset, .unset, .unset, .unset] [(.int ((f26 (ov.toNatClampNeg + 1)) &&& (255 : Int32)))])) t₀
        refine XS.istore X26.here hx rfl (hb hby at_209) rfl (l' := #[.val (.int p1), .val (.int p2), .val (.int p3), .val (.int p4), .val (.int (p1 &&& (3 : Int32))), .val (.int (p2 &&& (2147483647 : Int32))), .val (.int cp), .val (.int (1 : Int32)), .val (.int ov), .val (.int fb), .val (.ref ob1), .val (.int (1 : Int32)), .val (.int ((f26 (ov.toNatClampNeg)) &&& (255 : Int32))), .val (.int ((f26 (ov.toNatClampNeg + 1)) &&& (255 : Int32))), .unset, .unset, .unset, .unset]) rfl ?_
        show Steps p.tables e below (T26.setTop (mkF m 211 #[.val (.int p1), .val (.int p2), .val (.int p3), .val (.int p4), .val (.int (p1 &&& (3 : Int32))), .val (.int (p2 &&& (2147483647 : Int32))), .val (.int cp), .val (.int (1 : Int32)), .val (.int ov), .val (.int fb), .val (.ref ob1), .val (.int (1 : Int32)), .val (.int ((f26 (ov.toNatClampNeg)) &&& (255 : Int32))), .val (.int ((f26 (ov.toNatClampNeg + 1)) &&& (255 : Int32))), .unset, .unset, .unset, .unset] [])) t₀
        refine XS.aload X26.here hx rfl (hb hby at_211) rfl rfl ?_
        show Steps p.tables e below (T26.setTop (mkF m 213 #[.val (.int p1), .val (.int p2), .val (.int p3), .val (.int p4), .val (.int (p1 &&& (3 : Int32))), .val (.int (p2 &&& (2147483647 : Int32))), .val (.int cp), .val (.int (1 : Int32)), .val (.int ov), .val (.int fb), .val (.ref ob1), .val (.int (1 : Int32)), .val (.int ((f26 (ov.toNatClampNeg)) &&& (255 : Int32))), .val (.int ((f26 (ov.toNatClampNeg + 1)) &&& (255 : Int32))), .unset, .unset, .unset, .unset] [(.ref ob1)])) t₀
        refine XS.iload X26.here hx rfl (hb hby at_213) rfl ?_
        show Steps p.tables e below (T26.setTop (mkF m 215 #[.val (.int p1), .val (.int p2), .val (.int p3), .val (.int p4), .val (.int (p1 &&& (3 : Int32))), .val (.int (p2 &&& (2147483647 : Int32))), .val (.int cp), .val (.int (1 : Int32)), .val (.int ov), .val (.int fb), .val (.ref ob1), .val (.int (1 : Int32)), .val (.int ((f26 (ov.toNatClampNeg)) &&& (255 : Int32))), .val (.int ((f26 (ov.toNatClampNeg + 1)) &&& (255 : Int32))), .unset, .unset, .unset, .unset] [(.int ov), (.ref ob1)])) t₀
        refine XS.iconst X26.here hx rfl (hb hby at_215) ?_
        show Steps p.tables e below (T26.setTop (mkF m 216 #[.val (.int p1), .val (.int p2), .val (.int p3), .val (.int p4), .val (.int (p1 &&& (3 : Int32))), .val (.int (p2 &&& (2147483647 : Int32))), .val (.int cp), .val (.int (1 : Int32)), .val (.int ov), .val (.int fb), .val (.ref ob1), .val (.int (1 : Int32)), .val (.int ((f26 (ov.toNatClampNeg)) &&& (255 : Int32))), .val (.int ((f26 (ov.toNatClampNeg + 1)) &&& (255 : Int32))), .unset, .unset, .unset, .unset] [(.int (2 : Int32)), (.int ov), (.ref ob1)])) t₀
        refine XS.iadd X26.here hx rfl (hb hby at_216) rfl ?_
        exact k₀
      have Bc29 := B26
      obtain ⟨cl29, Ar29, sz29, Hf29⟩ := Bc29
      have ix2 := own_ix (ov := ov) (2 : Int32) 2 rfl (by decide) ho1 ho2
      have hin29 := own_inb (j := (ov + (2 : Int32))) sz29 (by omega) (by omega)
      have hat29 : cl29.slots[((ov + (2 : Int32))).toNatClampNeg]? = some (.int (f26 (ov.toNatClampNeg + 2))) := by rw [ix2.1]; exact Hf29 _ (by have q := own_nat ho1; omega)
      refine hG _ (T26.setTop (mkF m 230 #[.val (.int p1), .val (.int p2), .val (.int p3), .val (.int p4), .val (.int (p1 &&& (3 : Int32))), .val (.int (p2 &&& (2147483647 : Int32))), .val (.int cp), .val (.int (1 : Int32)), .val (.int ov), .val (.int fb), .val (.ref ob1), .val (.int (1 : Int32)), .val (.int ((f26 (ov.toNatClampNeg)) &&& (255 : Int32))), .val (.int ((f26 (ov.toNatClampNeg + 1)) &&& (255 : Int32))), .val (.int ((f26 (ov.toNatClampNeg + 2)) &&& (255 : Int32))), .unset, .unset, .unset] [(.int (ov + (3 : Int32))), (.ref ob1)])) (fun t₀ k₀ => ?_) ?_
      · show Steps p.tables e below (T26.setTop (mkF m 217 #[.val (.int p1), .val (.int p2), .val (.int p3), .val (.int p4), .val (.int (p1 &&& (3 : Int32))), .val (.int (p2 &&& (2147483647 : Int32))), .val (.int cp), .val (.int (1 : Int32)), .val (.int ov), .val (.int fb), .val (.ref ob1), .val (.int (1 : Int32)), .val (.int ((f26 (ov.toNatClampNeg)) &&& (255 : Int32))), .val (.int ((f26 (ov.toNatClampNeg + 1)) &&& (255 : Int32))), .unset, .unset, .unset, .unset] [(.int (ov + (2 : Int32))), (.ref ob1)])) t₀
        refine X26.baloadBytes hx (j := (ov + (2 : Int32))) (v := .int (f26 (ov.toNatClampNeg + 2))) Ar29.1 (State.isArrayOf_alike hZ.alike Ar29.2.1) Ar29.2.2 hin29 hat29 (g := (mkF m 217 #[.val (.int p1), .val (.int p2), .val (.int p3), .val (.int p4), .val (.int (p1 &&& (3 : Int32))), .val (.int (p2 &&& (2147483647 : Int32))), .val (.int cp), .val (.int (1 : Int32)), .val (.int ov), .val (.int fb), .val (.ref ob1), .val (.int (1 : Int32)), .val (.int ((f26 (ov.toNatClampNeg)) &&& (255 : Int32))), .val (.int ((f26 (ov.toNatClampNeg + 1)) &&& (255 : Int32))), .unset, .unset, .unset, .unset] [(.int (ov + (2 : Int32))), (.ref ob1)])) rfl rfl (hb hby at_217) _ ?_
        show Steps p.tables e below (T26.setTop (mkF m 218 #[.val (.int p1), .val (.int p2), .val (.int p3), .val (.int p4), .val (.int (p1 &&& (3 : Int32))), .val (.int (p2 &&& (2147483647 : Int32))), .val (.int cp), .val (.int (1 : Int32)), .val (.int ov), .val (.int fb), .val (.ref ob1), .val (.int (1 : Int32)), .val (.int ((f26 (ov.toNatClampNeg)) &&& (255 : Int32))), .val (.int ((f26 (ov.toNatClampNeg + 1)) &&& (255 : Int32))), .unset, .unset, .unset, .unset] [(.int (f26 (ov.toNatClampNeg + 2)))])) t₀
        refine XS.sipush X26.here hx rfl (hb hby at_218) ?_
        show Steps p.tables e below (T26.setTop (mkF m 221 #[.val (.int p1), .val (.int p2), .val (.int p3), .val (.int p4), .val (.int (p1 &&& (3 : Int32))), .val (.int (p2 &&& (2147483647 : Int32))), .val (.int cp), .val (.int (1 : Int32)), .val (.int ov), .val (.int fb), .val (.ref ob1), .val (.int (1 : Int32)), .val (.int ((f26 (ov.toNatClampNeg)) &&& (255 : Int32))), .val (.int ((f26 (ov.toNatClampNeg + 1)) &&& (255 : Int32))), .unset, .unset, .unset, .unset] [(.int (255 : Int32)), (.int (f26 (ov.toNatClampNeg + 2)))])) t₀
        refine XS.iand X26.here hx rfl (hb hby at_221) rfl ?_
        show Steps p.tables e below (T26.setTop (mkF m 222 #[.val (.int p1), .val (.int p2), .val (.int p3), .val (.int p4), .val (.int (p1 &&& (3 : Int32))), .val (.int (p2 &&& (2147483647 : Int32))), .val (.int cp), .val (.int (1 : Int32)), .val (.int ov), .val (.int fb), .val (.ref ob1), .val (.int (1 : Int32)), .val (.int ((f26 (ov.toNatClampNeg)) &&& (255 : Int32))), .val (.int ((f26 (ov.toNatClampNeg + 1)) &&& (255 : Int32))), .unset, .unset, .unset, .unset] [(.int ((f26 (ov.toNatClampNeg + 2)) &&& (255 : Int32)))])) t₀
        refine XS.istore X26.here hx rfl (hb hby at_222) rfl (l' := #[.val (.int p1), .val (.int p2), .val (.int p3), .val (.int p4), .val (.int (p1 &&& (3 : Int32))), .val (.int (p2 &&& (2147483647 : Int32))), .val (.int cp), .val (.int (1 : Int32)), .val (.int ov), .val (.int fb), .val (.ref ob1), .val (.int (1 : Int32)), .val (.int ((f26 (ov.toNatClampNeg)) &&& (255 : Int32))), .val (.int ((f26 (ov.toNatClampNeg + 1)) &&& (255 : Int32))), .val (.int ((f26 (ov.toNatClampNeg + 2)) &&& (255 : Int32))), .unset, .unset, .unset]) rfl ?_
        show Steps p.tables e below (T26.setTop (mkF m 224 #[.val (.int p1), .val (.int p2), .val (.int p3), .val (.int p4), .val (.int (p1 &&& (3 : Int32))), .val (.int (p2 &&& (2147483647 : Int32))), .val (.int cp), .val (.int (1 : Int32)), .val (.int ov), .val (.int fb), .val (.ref ob1), .val (.int (1 : Int32)), .val (.int ((f26 (ov.toNatClampNeg)) &&& (255 : Int32))), .val (.int ((f26 (ov.toNatClampNeg + 1)) &&& (255 : Int32))), .val (.int ((f26 (ov.toNatClampNeg + 2)) &&& (255 : Int32))), .unset, .unset, .unset] [])) t₀
        refine XS.aload X26.here hx rfl (hb hby at_224) rfl rfl ?_
        show Steps p.tables e below (T26.setTop (mkF m 226 #[.val (.int p1), .val (.int p2), .val (.int p3), .val (.int p4), .val (.int (p1 &&& (3 : Int32))), .val (.int (p2 &&& (2147483647 : Int32))), .val (.int cp), .val (.int (1 : Int32)), .val (.int ov), .val (.int fb), .val (.ref ob1), .val (.int (1 : Int32)), .val (.int ((f26 (ov.toNatClampNeg)) &&& (255 : Int32))), .val (.int ((f26 (ov.toNatClampNeg + 1)) &&& (255 : Int32))), .val (.int ((f26 (ov.toNatClampNeg + 2)) &&& (255 : Int32))), .unset, .unset, .unset] [(.ref ob1)])) t₀
        refine XS.iload X26.here hx rfl (hb hby at_226) rfl ?_
        show Steps p.tables e below (T26.setTop (mkF m 228 #[.val (.int p1), .val (.int p2), .val (.int p3), .val (.int p4), .val (.int (p1 &&& (3 : Int32))), .val (.int (p2 &&& (2147483647 : Int32))), .val (.int cp), .val (.int (1 : Int32)), .val (.int ov), .val (.int fb), .val (.ref ob1), .val (.int (1 : Int32)), .val (.int ((f26 (ov.toNatClampNeg)) &&& (255 : Int32))), .val (.int ((f26 (ov.toNatClampNeg + 1)) &&& (255 : Int32))), .val (.int ((f26 (ov.toNatClampNeg + 2)) &&& (255 : Int32))), .unset, .unset, .unset] [(.int ov), (.ref ob1)])) t₀
        refine XS.iconst X26.here hx rfl (hb hby at_228) ?_
        show Steps p.tables e below (T26.setTop (mkF m 229 #[.val (.int p1), .val (.int p2), .val (.int p3), .val (.int p4), .val (.int (p1 &&& (3 : Int32))), .val (.int (p2 &&& (2147483647 : Int32))), .val (.int cp), .val (.int (1 : Int32)), .val (.int ov), .val (.int fb), .val (.ref ob1), .val (.int (1 : Int32)), .val (.int ((f26 (ov.toNatClampNeg)) &&& (255 : Int32))), .val (.int ((f26 (ov.toNatClampNeg + 1)) &&& (255 : Int32))), .val (.int ((f26 (ov.toNatClampNeg + 2)) &&& (255 : Int32))), .unset, .unset, .unset] [(.int (3 : Int32)), (.int ov), (.ref ob1)])) t₀
        refine XS.iadd X26.here hx rfl (hb hby at_229) rfl ?_
        exact k₀
      have Bc30 := B26
      obtain ⟨cl30, Ar30, sz30, Hf30⟩ := Bc30
      have ix3 := own_ix (ov := ov) (3 : Int32) 3 rfl (by decide) ho1 ho2
      have hin30 := own_inb (j := (ov + (3 : Int32))) sz30 (by omega) (by omega)
      have hat30 : cl30.slots[((ov + (3 : Int32))).toNatClampNeg]? = some (.int (f26 (ov.toNatClampNeg + 3))) := by rw [ix3.1]; exact Hf30 _ (by have q := own_nat ho1; omega)
      refine hG _ (T26.setTop (mkF m 237 #[.val (.int p1), .val (.int p2), .val (.int p3), .val (.int p4), .val (.int (p1 &&& (3 : Int32))), .val (.int (p2 &&& (2147483647 : Int32))), .val (.int cp), .val (.int (1 : Int32)), .val (.int ov), .val (.int fb), .val (.ref ob1), .val (.int (1 : Int32)), .val (.int ((f26 (ov.toNatClampNeg)) &&& (255 : Int32))), .val (.int ((f26 (ov.toNatClampNeg + 1)) &&& (255 : Int32))), .val (.int ((f26 (ov.toNatClampNeg + 2)) &&& (255 : Int32))), .val (.int ((f26 (ov.toNatClampNeg + 3)) &&& (255 : Int32))), .unset, .unset] [])) (fun t₀ k₀ => ?_) ?_
      · show Steps p.tables e below (T26.setTop (mkF m 230 #[.val (.int p1), .val (.int p2), .val (.int p3), .val (.int p4), .val (.int (p1 &&& (3 : Int32))), .val (.int (p2 &&& (2147483647 : Int32))), .val (.int cp), .val (.int (1 : Int32)), .val (.int ov), .val (.int fb), .val (.ref ob1), .val (.int (1 : Int32)), .val (.int ((f26 (ov.toNatClampNeg)) &&& (255 : Int32))), .val (.int ((f26 (ov.toNatClampNeg + 1)) &&& (255 : Int32))), .val (.int ((f26 (ov.toNatClampNeg + 2)) &&& (255 : Int32))), .unset, .unset, .unset] [(.int (ov + (3 : Int32))), (.ref ob1)])) t₀
        refine X26.baloadBytes hx (j := (ov + (3 : Int32))) (v := .int (f26 (ov.toNatClampNeg + 3))) Ar30.1 (State.isArrayOf_alike hZ.alike Ar30.2.1) Ar30.2.2 hin30 hat30 (g := (mkF m 230 #[.val (.int p1), .val (.int p2), .val (.int p3), .val (.int p4), .val (.int (p1 &&& (3 : Int32))), .val (.int (p2 &&& (2147483647 : Int32))), .val (.int cp), .val (.int (1 : Int32)), .val (.int ov), .val (.int fb), .val (.ref ob1), .val (.int (1 : Int32)), .val (.int ((f26 (ov.toNatClampNeg)) &&& (255 : Int32))), .val (.int ((f26 (ov.toNatClampNeg + 1)) &&& (255 : Int32))), .val (.int ((f26 (ov.toNatClampNeg + 2)) &&& (255 : Int32))), .unset, .unset, .unset] [(.int (ov + (3 : Int32))), (.ref ob1)])) rfl rfl (hb hby at_230) _ ?_
        show Steps p.tables e below (T26.setTop (mkF m 231 #[.val (.int p1), .val (.int p2), .val (.int p3), .val (.int p4), .val (.int (p1 &&& (3 : Int32))), .val (.int (p2 &&& (2147483647 : Int32))), .val (.int cp), .val (.int (1 : Int32)), .val (.int ov), .val (.int fb), .val (.ref ob1), .val (.int (1 : Int32)), .val (.int ((f26 (ov.toNatClampNeg)) &&& (255 : Int32))), .val (.int ((f26 (ov.toNatClampNeg + 1)) &&& (255 : Int32))), .val (.int ((f26 (ov.toNatClampNeg + 2)) &&& (255 : Int32))), .unset, .unset, .unset] [(.int (f26 (ov.toNatClampNeg + 3)))])) t₀
        refine XS.sipush X26.here hx rfl (hb hby at_231) ?_
        show Steps p.tables e below (T26.setTop (mkF m 234 #[.val (.int p1), .val (.int p2), .val (.int p3), .val (.int p4), .val (.int (p1 &&& (3 : Int32))), .val (.int (p2 &&& (2147483647 : Int32))), .val (.int cp), .val (.int (1 : Int32)), .val (.int ov), .val (.int fb), .val (.ref ob1), .val (.int (1 : Int32)), .val (.int ((f26 (ov.toNatClampNeg)) &&& (255 : Int32))), .val (.int ((f26 (ov.toNatClampNeg + 1)) &&& (255 : Int32))), .val (.int ((f26 (ov.toNatClampNeg + 2)) &&& (255 : Int32))), .unset, .unset, .unset] [(.int (255 : Int32)), (.int (f26 (ov.toNatClampNeg + 3)))])) t₀
        refine XS.iand X26.here hx rfl (hb hby at_234) rfl ?_
        show Steps p.tables e below (T26.setTop (mkF m 235 #[.val (.int p1), .val (.int p2), .val (.int p3), .val (.int p4), .val (.int (p1 &&& (3 : Int32))), .val (.int (p2 &&& (2147483647 : Int32))), .val (.int cp), .val (.int (1 : Int32)), .val (.int ov), .val (.int fb), .val (.ref ob1), .val (.int (1 : Int32)), .val (.int ((f26 (ov.toNatClampNeg)) &&& (255 : Int32))), .val (.int ((f26 (ov.toNatClampNeg + 1)) &&& (255 : Int32))), .val (.int ((f26 (ov.toNatClampNeg + 2)) &&& (255 : Int32))), .unset, .unset, .unset] [(.int ((f26 (ov.toNatClampNeg + 3)) &&& (255 : Int32)))])) t₀
        refine XS.istore X26.here hx rfl (hb hby at_235) rfl (l' := #[.val (.int p1), .val (.int p2), .val (.int p3), .val (.int p4), .val (.int (p1 &&& (3 : Int32))), .val (.int (p2 &&& (2147483647 : Int32))), .val (.int cp), .val (.int (1 : Int32)), .val (.int ov), .val (.int fb), .val (.ref ob1), .val (.int (1 : Int32)), .val (.int ((f26 (ov.toNatClampNeg)) &&& (255 : Int32))), .val (.int ((f26 (ov.toNatClampNeg + 1)) &&& (255 : Int32))), .val (.int ((f26 (ov.toNatClampNeg + 2)) &&& (255 : Int32))), .val (.int ((f26 (ov.toNatClampNeg + 3)) &&& (255 : Int32))), .unset, .unset]) rfl ?_
        exact k₀
      obtain ⟨b0, hb0⟩ : ∃ z, z = ((f26 (ov.toNatClampNeg)) &&& (255 : Int32)) := ⟨_, rfl⟩
      rw [← hb0]
      show G (T26.setTop (mkF m 237 #[.val (.int p1), .val (.int p2), .val (.int p3), .val (.int p4), .val (.int (p1 &&& (3 : Int32))), .val (.int (p2 &&& (2147483647 : Int32))), .val (.int cp), .val (.int (1 : Int32)), .val (.int ov), .val (.int fb), .val (.ref ob1), .val (.int (1 : Int32)), .val (.int b0), .val (.int ((f26 (ov.toNatClampNeg + 1)) &&& (255 : Int32))), .val (.int ((f26 (ov.toNatClampNeg + 2)) &&& (255 : Int32))), .val (.int ((f26 (ov.toNatClampNeg + 3)) &&& (255 : Int32))), .unset, .unset] []))
      obtain ⟨c1, hc1⟩ : ∃ z, z = ((f26 (ov.toNatClampNeg + 1)) &&& (255 : Int32)) := ⟨_, rfl⟩
      rw [← hc1]
      show G (T26.setTop (mkF m 237 #[.val (.int p1), .val (.int p2), .val (.int p3), .val (.int p4), .val (.int (p1 &&& (3 : Int32))), .val (.int (p2 &&& (2147483647 : Int32))), .val (.int cp), .val (.int (1 : Int32)), .val (.int ov), .val (.int fb), .val (.ref ob1), .val (.int (1 : Int32)), .val (.int b0), .val (.int c1), .val (.int ((f26 (ov.toNatClampNeg + 2)) &&& (255 : Int32))), .val (.int ((f26 (ov.toNatClampNeg + 3)) &&& (255 : Int32))), .unset, .unset] []))
      obtain ⟨c2, hc2⟩ : ∃ z, z = ((f26 (ov.toNatClampNeg + 2)) &&& (255 : Int32)) := ⟨_, rfl⟩
      rw [← hc2]
      show G (T26.setTop (mkF m 237 #[.val (.int p1), .val (.int p2), .val (.int p3), .val (.int p4), .val (.int (p1 &&& (3 : Int32))), .val (.int (p2 &&& (2147483647 : Int32))), .val (.int cp), .val (.int (1 : Int32)), .val (.int ov), .val (.int fb), .val (.ref ob1), .val (.int (1 : Int32)), .val (.int b0), .val (.int c1), .val (.int c2), .val (.int ((f26 (ov.toNatClampNeg + 3)) &&& (255 : Int32))), .unset, .unset] []))
      obtain ⟨c3, hc3⟩ : ∃ z, z = ((f26 (ov.toNatClampNeg + 3)) &&& (255 : Int32)) := ⟨_, rfl⟩
      rw [← hc3]
      show G (T26.setTop (mkF m 237 #[.val (.int p1), .val (.int p2), .val (.int p3), .val (.int p4), .val (.int (p1 &&& (3 : Int32))), .val (.int (p2 &&& (2147483647 : Int32))), .val (.int cp), .val (.int (1 : Int32)), .val (.int ov), .val (.int fb), .val (.ref ob1), .val (.int (1 : Int32)), .val (.int b0), .val (.int c1), .val (.int c2), .val (.int c3), .unset, .unset] []))
      rw [y026] at hb0
      have v0 : b0.toInt = 0 + cp.toInt / 1 := own_byte (own_lead (0 : Int32) cp (0 : Int32) 0 rfl 7 (by decide) 0 rfl (by decide) (by decide) (by omega) (by omega) (by decide)) (by omega) (by omega) hb0
      refine hG _ (T26.setTop (mkF m 501 #[.val (.int p1), .val (.int p2), .val (.int p3), .val (.int p4), .val (.int (p1 &&& (3 : Int32))), .val (.int (p2 &&& (2147483647 : Int32))), .val (.int cp), .val (.int (1 : Int32)), .val (.int ov), .val (.int fb), .val (.ref ob1), .val (.int (1 : Int32)), .val (.int b0), .val (.int c1), .val (.int c2), .val (.int c3), .val (.int (1 : Int32)), .val (.int b0)] [])) (fun t₀ k₀ => ?_) ?_
      · show Steps p.tables e below (T26.setTop (mkF m 237 #[.val (.int p1), .val (.int p2), .val (.int p3), .val (.int p4), .val (.int (p1 &&& (3 : Int32))), .val (.int (p2 &&& (2147483647 : Int32))), .val (.int cp), .val (.int (1 : Int32)), .val (.int ov), .val (.int fb), .val (.ref ob1), .val (.int (1 : Int32)), .val (.int b0), .val (.int c1), .val (.int c2), .val (.int c3), .unset, .unset] [])) t₀
        refine XS.iload X26.here hx rfl (hb hby at_237) rfl ?_
        show Steps p.tables e below (T26.setTop (mkF m 239 #[.val (.int p1), .val (.int p2), .val (.int p3), .val (.int p4), .val (.int (p1 &&& (3 : Int32))), .val (.int (p2 &&& (2147483647 : Int32))), .val (.int cp), .val (.int (1 : Int32)), .val (.int ov), .val (.int fb), .val (.ref ob1), .val (.int (1 : Int32)), .val (.int b0), .val (.int c1), .val (.int c2), .val (.int c3), .unset, .unset] [(.int (1 : Int32))])) t₀
        refine XS.iconst X26.here hx rfl (hb hby at_239) ?_
        show Steps p.tables e below (T26.setTop (mkF m 240 #[.val (.int p1), .val (.int p2), .val (.int p3), .val (.int p4), .val (.int (p1 &&& (3 : Int32))), .val (.int (p2 &&& (2147483647 : Int32))), .val (.int cp), .val (.int (1 : Int32)), .val (.int ov), .val (.int fb), .val (.ref ob1), .val (.int (1 : Int32)), .val (.int b0), .val (.int c1), .val (.int c2), .val (.int c3), .unset, .unset] [(.int (1 : Int32)), (.int (1 : Int32))])) t₀
        refine XS.icmpNo X26.here hx rfl (hb hby at_240) rfl (teq (by decide : ((1 : Int32) = (1 : Int32)))).2 ?_
        show Steps p.tables e below (T26.setTop (mkF m 243 #[.val (.int p1), .val (.int p2), .val (.int p3), .val (.int p4), .val (.int (p1 &&& (3 : Int32))), .val (.int (p2 &&& (2147483647 : Int32))), .val (.int cp), .val (.int (1 : Int32)), .val (.int ov), .val (.int fb), .val (.ref ob1), .val (.int (1 : Int32)), .val (.int b0), .val (.int c1), .val (.int c2), .val (.int c3), .unset, .unset] [])) t₀
        refine XS.iload X26.here hx rfl (hb hby at_243) rfl ?_
        show Steps p.tables e below (T26.setTop (mkF m 245 #[.val (.int p1), .val (.int p2), .val (.int p3), .val (.int p4), .val (.int (p1 &&& (3 : Int32))), .val (.int (p2 &&& (2147483647 : Int32))), .val (.int cp), .val (.int (1 : Int32)), .val (.int ov), .val (.int fb), .val (.ref ob1), .val (.int (1 : Int32)), .val (.int b0), .val (.int c1), .val (.int c2), .val (.int c3), .unset, .unset] [(.int b0)])) t₀
        refine XS.sipush X26.here hx rfl (hb hby at_245) ?_
        show Steps p.tables e below (T26.setTop (mkF m 248 #[.val (.int p1), .val (.int p2), .val (.int p3), .val (.int p4), .val (.int (p1 &&& (3 : Int32))), .val (.int (p2 &&& (2147483647 : Int32))), .val (.int cp), .val (.int (1 : Int32)), .val (.int ov), .val (.int fb), .val (.ref ob1), .val (.int (1 : Int32)), .val (.int b0), .val (.int c1), .val (.int c2), .val (.int c3), .unset, .unset] [(.int (128 : Int32)), (.int b0)])) t₀
        refine XS.icmpNo X26.here hx rfl (hb hby at_248) rfl (tlt (own_lt (k := (128 : Int32)) (by show b0.toInt < 128; omega))).2.1 ?_
        show Steps p.tables e below (T26.setTop (mkF m 251 #[.val (.int p1), .val (.int p2), .val (.int p3), .val (.int p4), .val (.int (p1 &&& (3 : Int32))), .val (.int (p2 &&& (2147483647 : Int32))), .val (.int cp), .val (.int (1 : Int32)), .val (.int ov), .val (.int fb), .val (.ref ob1), .val (.int (1 : Int32)), .val (.int b0), .val (.int c1), .val (.int c2), .val (.int c3), .unset, .unset] [])) t₀
        refine XS.iconst X26.here hx rfl (hb hby at_251) ?_
        show Steps p.tables e below (T26.setTop (mkF m 252 #[.val (.int p1), .val (.int p2), .val (.int p3), .val (.int p4), .val (.int (p1 &&& (3 : Int32))), .val (.int (p2 &&& (2147483647 : Int32))), .val (.int cp), .val (.int (1 : Int32)), .val (.int ov), .val (.int fb), .val (.ref ob1), .val (.int (1 : Int32)), .val (.int b0), .val (.int c1), .val (.int c2), .val (.int c3), .unset, .unset] [(.int (1 : Int32))])) t₀
        refine XS.goto X26.here hx rfl (pc0 := 252) (pc' := 256) rfl (hb hby at_252) (by decide) (by decide) ?_
        show Steps p.tables e below (T26.setTop (mkF m 256 #[.val (.int p1), .val (.int p2), .val (.int p3), .val (.int p4), .val (.int (p1 &&& (3 : Int32))), .val (.int (p2 &&& (2147483647 : Int32))), .val (.int cp), .val (.int (1 : Int32)), .val (.int ov), .val (.int fb), .val (.ref ob1), .val (.int (1 : Int32)), .val (.int b0), .val (.int c1), .val (.int c2), .val (.int c3), .unset, .unset] [(.int (1 : Int32))])) t₀
        refine XS.istore X26.here hx rfl (hb hby at_256) rfl (l' := #[.val (.int p1), .val (.int p2), .val (.int p3), .val (.int p4), .val (.int (p1 &&& (3 : Int32))), .val (.int (p2 &&& (2147483647 : Int32))), .val (.int cp), .val (.int (1 : Int32)), .val (.int ov), .val (.int fb), .val (.ref ob1), .val (.int (1 : Int32)), .val (.int b0), .val (.int c1), .val (.int c2), .val (.int c3), .val (.int (1 : Int32)), .unset]) rfl ?_
        show Steps p.tables e below (T26.setTop (mkF m 258 #[.val (.int p1), .val (.int p2), .val (.int p3), .val (.int p4), .val (.int (p1 &&& (3 : Int32))), .val (.int (p2 &&& (2147483647 : Int32))), .val (.int cp), .val (.int (1 : Int32)), .val (.int ov), .val (.int fb), .val (.ref ob1), .val (.int (1 : Int32)), .val (.int b0), .val (.int c1), .val (.int c2), .val (.int c3), .val (.int (1 : Int32)), .unset] [])) t₀
        refine XS.iload X26.here hx rfl (hb hby at_258) rfl ?_
        show Steps p.tables e below (T26.setTop (mkF m 260 #[.val (.int p1), .val (.int p2), .val (.int p3), .val (.int p4), .val (.int (p1 &&& (3 : Int32))), .val (.int (p2 &&& (2147483647 : Int32))), .val (.int cp), .val (.int (1 : Int32)), .val (.int ov), .val (.int fb), .val (.ref ob1), .val (.int (1 : Int32)), .val (.int b0), .val (.int c1), .val (.int c2), .val (.int c3), .val (.int (1 : Int32)), .unset] [(.int b0)])) t₀
        refine XS.istore X26.here hx rfl (hb hby at_260) rfl (l' := #[.val (.int p1), .val (.int p2), .val (.int p3), .val (.int p4), .val (.int (p1 &&& (3 : Int32))), .val (.int (p2 &&& (2147483647 : Int32))), .val (.int cp), .val (.int (1 : Int32)), .val (.int ov), .val (.int fb), .val (.ref ob1), .val (.int (1 : Int32)), .val (.int b0), .val (.int c1), .val (.int c2), .val (.int c3), .val (.int (1 : Int32)), .val (.int b0)]) rfl ?_
        show Steps p.tables e below (T26.setTop (mkF m 262 #[.val (.int p1), .val (.int p2), .val (.int p3), .val (.int p4), .val (.int (p1 &&& (3 : Int32))), .val (.int (p2 &&& (2147483647 : Int32))), .val (.int cp), .val (.int (1 : Int32)), .val (.int ov), .val (.int fb), .val (.ref ob1), .val (.int (1 : Int32)), .val (.int b0), .val (.int c1), .val (.int c2), .val (.int c3), .val (.int (1 : Int32)), .val (.int b0)] [])) t₀
        refine XS.goto X26.here hx rfl (pc0 := 262) (pc' := 487) rfl (hb hby at_262) (by decide) (by decide) ?_
        show Steps p.tables e below (T26.setTop (mkF m 487 #[.val (.int p1), .val (.int p2), .val (.int p3), .val (.int p4), .val (.int (p1 &&& (3 : Int32))), .val (.int (p2 &&& (2147483647 : Int32))), .val (.int cp), .val (.int (1 : Int32)), .val (.int ov), .val (.int fb), .val (.ref ob1), .val (.int (1 : Int32)), .val (.int b0), .val (.int c1), .val (.int c2), .val (.int c3), .val (.int (1 : Int32)), .val (.int b0)] [])) t₀
        refine XS.iload X26.here hx rfl (hb hby at_487) rfl ?_
        show Steps p.tables e below (T26.setTop (mkF m 489 #[.val (.int p1), .val (.int p2), .val (.int p3), .val (.int p4), .val (.int (p1 &&& (3 : Int32))), .val (.int (p2 &&& (2147483647 : Int32))), .val (.int cp), .val (.int (1 : Int32)), .val (.int ov), .val (.int fb), .val (.ref ob1), .val (.int (1 : Int32)), .val (.int b0), .val (.int c1), .val (.int c2), .val (.int c3), .val (.int (1 : Int32)), .val (.int b0)] [(.int (1 : Int32))])) t₀
        refine XS.ifNo X26.here hx rfl (hb hby at_489) rfl ((if0 _ _).trans (feq (by decide : ¬ ((1 : Int32) = (0 : Int32)))).1) ?_
        show Steps p.tables e below (T26.setTop (mkF m 492 #[.val (.int p1), .val (.int p2), .val (.int p3), .val (.int p4), .val (.int (p1 &&& (3 : Int32))), .val (.int (p2 &&& (2147483647 : Int32))), .val (.int cp), .val (.int (1 : Int32)), .val (.int ov), .val (.int fb), .val (.ref ob1), .val (.int (1 : Int32)), .val (.int b0), .val (.int c1), .val (.int c2), .val (.int c3), .val (.int (1 : Int32)), .val (.int b0)] [])) t₀
        refine XS.iload X26.here hx rfl (hb hby at_492) rfl ?_
        show Steps p.tables e below (T26.setTop (mkF m 494 #[.val (.int p1), .val (.int p2), .val (.int p3), .val (.int p4), .val (.int (p1 &&& (3 : Int32))), .val (.int (p2 &&& (2147483647 : Int32))), .val (.int cp), .val (.int (1 : Int32)), .val (.int ov), .val (.int fb), .val (.ref ob1), .val (.int (1 : Int32)), .val (.int b0), .val (.int c1), .val (.int c2), .val (.int c3), .val (.int (1 : Int32)), .val (.int b0)] [(.int b0)])) t₀
        refine XS.iload X26.here hx rfl (hb hby at_494) rfl ?_
        show Steps p.tables e below (T26.setTop (mkF m 496 #[.val (.int p1), .val (.int p2), .val (.int p3), .val (.int p4), .val (.int (p1 &&& (3 : Int32))), .val (.int (p2 &&& (2147483647 : Int32))), .val (.int cp), .val (.int (1 : Int32)), .val (.int ov), .val (.int fb), .val (.ref ob1), .val (.int (1 : Int32)), .val (.int b0), .val (.int c1), .val (.int c2), .val (.int c3), .val (.int (1 : Int32)), .val (.int b0)] [(.int cp), (.int b0)])) t₀
        refine XS.icmpYes X26.here hx rfl (pc0 := 496) (pc' := 501) rfl (hb hby at_496) rfl (teq (Int32.toInt_inj.mp (by omega))).1 (by decide) (by decide) ?_
        exact k₀
      exact tlK T26 T26.heap _ X26 rfl N26 z_x26 _ B26 _ _ _ _ _ _ (own_hk (1 : Int32) 1 rfl (by decide) ho1 ho2 hk26)
    ·
      obtain ⟨hwt, hl, hu⟩ := hW
      subst hwt
      show G (T17.setTop (mkF m 167 #[.val (.int p1), .val (.int p2), .val (.int p3), .val (.int p4), .val (.int (p1 &&& (3 : Int32))), .val (.int (p2 &&& (2147483647 : Int32))), .val (.int cp), .val (.int (2 : Int32)), .val (.int ov), .val (.int fb), .val (.ref ob1), .unset, .unset, .unset, .unset, .unset, .unset, .unset] []))
      refine hG _ (T17.setTop (mkF m 173 #[.val (.int p1), .val (.int p2), .val (.int p3), .val (.int p4), .val (.int (p1 &&& (3 : Int32))), .val (.int (p2 &&& (2147483647 : Int32))), .val (.int cp), .val (.int (2 : Int32)), .val (.int ov), .val (.int fb), .val (.ref ob1), .unset, .unset, .unset, .unset, .unset, .unset, .unset] [(.int ov), (.ref ob1), (.int cp)])) (fun t₀ k₀ => ?_) ?_
      · show Steps p.tables e below (T17.setTop (mkF m 167 #[.val (.int p1), .val (.int p2), .val (.int p3), .val (.int p4), .val (.int (p1 &&& (3 : Int32))), .val (.int (p2 &&& (2147483647 : Int32))), .val (.int cp), .val (.int (2 : Int32)), .val (.int ov), .val (.int fb), .val (.ref ob1), .unset, .unset, .unset, .unset, .unset, .unset, .unset] [])) t₀
        refine XS.iload X17.here hx rfl (hb hby at_167) rfl ?_
        show Steps p.tables e below (T17.setTop (mkF m 169 #[.val (.int p1), .val (.int p2), .val (.int p3), .val (.int p4), .val (.int (p1 &&& (3 : Int32))), .val (.int (p2 &&& (2147483647 : Int32))), .val (.int cp), .val (.int (2 : Int32)), .val (.int ov), .val (.int fb), .val (.ref ob1), .unset, .unset, .unset, .unset, .unset, .unset, .unset] [(.int cp)])) t₀
        refine XS.aload X17.here hx rfl (hb hby at_169) rfl rfl ?_
        show Steps p.tables e below (T17.setTop (mkF m 171 #[.val (.int p1), .val (.int p2), .val (.int p3), .val (.int p4), .val (.int (p1 &&& (3 : Int32))), .val (.int (p2 &&& (2147483647 : Int32))), .val (.int cp), .val (.int (2 : Int32)), .val (.int ov), .val (.int fb), .val (.ref ob1), .unset, .unset, .unset, .unset, .unset, .unset, .unset] [(.ref ob1), (.int cp)])) t₀
        refine XS.iload X17.here hx rfl (hb hby at_171) rfl ?_
        exact k₀
      obtain ⟨_, _, ⟨T31, L31, k31, n31⟩, -, X31, ⟨Lc31, hQ31, l31, y31, z31⟩, st31⟩ := Jvm.LawKit.callS X17 hx (y := (⟨"com/example/opledger/opledger/Utf8", "encode", "(I[BI)I"⟩ : MethodName)) hown (mvT hZ (hw _ (List.mem_of_getElem? (i := 2) rfl))) (mvT hZ (hw _ (List.mem_of_getElem? (i := 3) rfl))) (mvT hZ (hw _ (List.mem_of_getElem? (i := 4) rfl))) (mvT hZ (hw _ (List.mem_of_getElem? (i := 5) rfl))) (by decide) (backOf (W := 0) (rmE2 l Z a0 hw [] cp ob1 ov fb wL kL h17 n0 z_17 o_x17 S_LEAD VL g_ob1 OB hl hu ho1 ho2) hZ (hw _ (List.mem_of_getElem? (i := 5) rfl)) (hw _ (List.mem_of_getElem? (i := 4) rfl)) (by decide) (by decide)) (g := (mkF m 173 #[.val (.int p1), .val (.int p2), .val (.int p3), .val (.int p4), .val (.int (p1 &&& (3 : Int32))), .val (.int (p2 &&& (2147483647 : Int32))), .val (.int cp), .val (.int (2 : Int32)), .val (.int ov), .val (.int fb), .val (.ref ob1), .unset, .unset, .unset, .unset, .unset, .unset, .unset] [(.int ov), (.ref ob1), (.int cp)])) rfl (by rw [hml]; rfl) (argsL := [(.int cp), (.ref ob1), (.int ov)]) (rest := []) (lenOf pd_0 rfl) rfl (by show 2 * 0 + _ ≤ _; exact Nat.le_of_eq rfl) (hb hby at_173) (fun _ _ => ⟨rfl, e17, (by decide : 1 + 0 ≤ _), (by decide : 8 + 0 ≤ _)⟩)
      dsimp only [Pt.U, Pt.locs, Pt.cells, Pt.slots] at X31 l31 y31 z31 st31 hQ31
      subst l31 y31 z31
      obtain ⟨f31, rfl, N31q, K31, B31, y031, y131, hk31⟩ := hQ31
      have N31 := Fr.app N17 N31q
      refine hG _ _ (fun t₀ k₀ => st31 _ k₀) ?_
      have z_x31 := Nat.le_trans z_17 K31.1
      have o_x31 := o_x17.keep K31 (allS g_ob1 all0)
      show G (T31.setTop (mkF m 176 #[.val (.int p1), .val (.int p2), .val (.int p3), .val (.int p4), .val (.int (p1 &&& (3 : Int32))), .val (.int (p2 &&& (2147483647 : Int32))), .val (.int cp), .val (.int (2 : Int32)), .val (.int ov), .val (.int fb), .val (.ref ob1), .unset, .unset, .unset, .unset, .unset, .unset, .unset] [(.int (2 : Int32))]))
      refine hG _ (T31.setTop (mkF m 191 #[.val (.int p1), .val (.int p2), .val (.int p3), .val (.int p4), .val (.int (p1 &&& (3 : Int32))), .val (.int (p2 &&& (2147483647 : Int32))), .val (.int cp), .val (.int (2 : Int32)), .val (.int ov), .val (.int fb), .val (.ref ob1), .val (.int (2 : Int32)), .unset, .unset, .unset, .unset, .unset, .unset] [(.int ov), (.ref ob1)])) (fun t₀ k₀ => ?_) ?_
      · show Steps p.tables e below (T31.setTop (mkF m 176 #[.val (.int p1), .val (.int p2), .val (.int p3), .val (.int p4), .val (.int (p1 &&& (3 : Int32))), .val (.int (p2 &&& (2147483647 : Int32))), .val (.int cp), .val (.int (2 : Int32)), .val (.int ov), .val (.int fb), .val (.ref ob1), .unset, .unset, .unset, .unset, .unset, .unset, .unset] [(.int (2 : Int32))])) t₀
        refine XS.istore X31.here hx rfl (hb hby at_176) rfl (l' := #[.val (.int p1), .val (.int p2), .val (.int p3), .val (.int p4), .val (.int (p1 &&& (3 : Int32))), .val (.int (p2 &&& (2147483647 : Int32))), .val (.int cp), .val (.int (2 : Int32)), .val (.int ov), .val (.int fb), .val (.ref ob1), .val (.int (2 : Int32)), .unset, .unset, .unset, .unset, .unset, .unset]) rfl ?_
        show Steps p.tables e below (T31.setTop (mkF m 178 #[.val (.int p1), .val (.int p2), .val (.int p3), .val (.int p4), .val (.int (p1 &&& (3 : Int32))), .val (.int (p2 &&& (2147483647 : Int32))), .val (.int cp), .val (.int (2 : Int32)), .val (.int ov), .val (.int fb), .val (.ref ob1), .val (.int (2 : Int32)), .unset, .unset, .unset, .unset, .unset, .unset] [])) t₀
        refine XS.iload X31.here hx rfl (hb hby at_178) rfl ?_
        show Steps p.tables e below (T31.setTop (mkF m 180 #[.val (.int p1), .val (.int p2), .val (.int p3), .val (.int p4), .val (.int (p1 &&& (3 : Int32))), .val (.int (p2 &&& (2147483647 : Int32))), .val (.int cp), .val (.int (2 : Int32)), .val (.int ov), .val (.int fb), .val (.ref ob1), .val (.int (2 : Int32)), .unset, .unset, .unset, .unset, .unset, .unset] [(.int (2 : Int32))])) t₀
        refine XS.iload X31.here hx rfl (hb hby at_180) rfl ?_
        show Steps p.tables e below (T31.setTop (mkF m 182 #[.val (.int p1), .val (.int p2), .val (.int p3), .val (.int p4), .val (.int (p1 &&& (3 : Int32))), .val (.int (p2 &&& (2147483647 : Int32))), .val (.int cp), .val (.int (2 : Int32)), .val (.int ov), .val (.int fb), .val (.ref ob1), .val (.int (2 : Int32)), .unset, .unset, .unset, .unset, .unset, .unset] [(.int (2 : Int32)), (.int (2 : Int32))])) t₀
        refine XS.icmpYes X31.here hx rfl (pc0 := 182) (pc' := 187) rfl (hb hby at_182) rfl (teq (by decide : ((2 : Int32) = (2 : Int32)))).1 (by decide) (by decide) ?_
        show Steps p.tables e below (T31.setTop (mkF m 187 #[.val (.int p1), .val (.int p2), .val (.int p3), .val (.int p4), .val (.int (p1 &&& (3 : Int32))), .val (.int (p2 &&& (2147483647 : Int32))), .val (.int cp), .val (.int (2 : Int32)), .val (.int ov), .val (.int fb), .val (.ref ob1), .val (.int (2 : Int32)), .unset, .unset, .unset, .unset, .unset, .unset] [])) t₀
        refine XS.aload X31.here hx rfl (hb hby at_187) rfl rfl ?_
        show Steps p.tables e below (T31.setTop (mkF m 189 #[.val (.int p1), .val (.int p2), .val (.int p3), .val (.int p4), .val (.int (p1 &&& (3 : Int32))), .val (.int (p2 &&& (2147483647 : Int32))), .val (.int cp), .val (.int (2 : Int32)), .val (.int ov), .val (.int fb), .val (.ref ob1), .val (.int (2 : Int32)), .unset, .unset, .unset, .unset, .unset, .unset] [(.ref ob1)])) t₀
        refine XS.iload X31.here hx rfl (hb hby at_189) rfl ?_
        exact k₀
      have Bc32 := B31
      obtain ⟨cl32, Ar32, sz32, Hf32⟩ := Bc32
      have hin32 := own_inb (j := ov) sz32 (by omega) (by omega)
      have hat32 : cl32.slots[(ov).toNatClampNeg]? = some (.int (f31 (ov.toNatClampNeg))) := Hf32 _ (by have q := own_nat ho1; omega)
      refine hG _ (T31.setTop (mkF m 204 #[.val (.int p1), .val (.int p2), .val (.int p3), .val (.int p4), .val (.int (p1 &&& (3 : Int32))), .val (.int (p2 &&& (2147483647 : Int32))), .val (.int cp), .val (.int (2 : Int32)), .val (.int ov), .val (.int fb), .val (.ref ob1), .val (.int (2 : Int32)), .val (.int ((f31 (ov.toNatClampNeg)) &&& (255 : Int32))), .unset, .unset, .unset, .unset, .unset] [(.int (ov + (1 : Int32))), (.ref ob1)])) (fun t₀ k₀ => ?_) ?_
      · show Steps p.tables e below (T31.setTop (mkF m 191 #[.val (.int p1), .val (.int p2), .val (.int p3), .val (.int p4), .val (.int (p1 &&& (3 : Int32))), .val (.int (p2 &&& (2147483647 : Int32))), .val (.int cp), .val (.int (2 : Int32)), .val (.int ov), .val (.int fb), .val (.ref ob1), .val (.int (2 : Int32)), .unset, .unset, .unset, .unset, .unset, .unset] [(.int ov), (.ref ob1)])) t₀
        refine X31.baloadBytes hx (j := ov) (v := .int (f31 (ov.toNatClampNeg))) Ar32.1 (State.isArrayOf_alike hZ.alike Ar32.2.1) Ar32.2.2 hin32 hat32 (g := (mkF m 191 #[.val (.int p1), .val (.int p2), .val (.int p3), .val (.int p4), .val (.int (p1 &&& (3 : Int32))), .val (.int (p2 &&& (2147483647 : Int32))), .val (.int cp), .val (.int (2 : Int32)), .val (.int ov), .val (.int fb), .val (.ref ob1), .val (.int (2 : Int32)), .unset, .unset, .unset, .unset, .unset, .unset] [(.int ov), (.ref ob1)])) rfl rfl (hb hby at_191) _ ?_
        show Steps p.tables e below (T31.setTop (mkF m 192 #[.val (.int p1), .val (.int p2), .val (.int p3), .val (.int p4), .val (.int (p1 &&& (3 : Int32))), .val (.int (p2 &&& (2147483647 : Int32))), .val (.int cp), .val (.int (2 : Int32)), .val (.int ov), .val (.int fb), .val (.ref ob1), .val (.int (2 : Int32)), .unset, .unset, .unset, .unset, .unset, .unset] [(.int (f31 (ov.toNatClampNeg)))])) t₀
        refine XS.sipush X31.here hx rfl (hb hby at_192) ?_
        show Steps p.tables e below (T31.setTop (mkF m 195 #[.val (.int p1), .val (.int p2), .val (.int p3), .val (.int p4), .val (.int (p1 &&& (3 : Int32))), .val (.int (p2 &&& (2147483647 : Int32))), .val (.int cp), .val (.int (2 : Int32)), .val (.int ov), .val (.int fb), .val (.ref ob1), .val (.int (2 : Int32)), .unset, .unset, .unset, .unset, .unset, .unset] [(.int (255 : Int32)), (.int (f31 (ov.toNatClampNeg)))])) t₀
        refine XS.iand X31.here hx rfl (hb hby at_195) rfl ?_
        show Steps p.tables e below (T31.setTop (mkF m 196 #[.val (.int p1), .val (.int p2), .val (.int p3), .val (.int p4), .val (.int (p1 &&& (3 : Int32))), .val (.int (p2 &&& (2147483647 : Int32))), .val (.int cp), .val (.int (2 : Int32)), .val (.int ov), .val (.int fb), .val (.ref ob1), .val (.int (2 : Int32)), .unset, .unset, .unset, .unset, .unset, .unset] [(.int ((f31 (ov.toNatClampNeg)) &&& (255 : Int32)))])) t₀
        refine XS.istore X31.here hx rfl (hb hby at_196) rfl (l' := #[.val (.int p1), .val (.int p2), .val (.int p3), .val (.int p4), .val (.int (p1 &&& (3 : Int32))), .val (.int (p2 &&& (2147483647 : Int32))), .val (.int cp), .val (.int (2 : Int32)), .val (.int ov), .val (.int fb), .val (.ref ob1), .val (.int (2 : Int32)), .val (.int ((f31 (ov.toNatClampNeg)) &&& (255 : Int32))), .unset, .unset, .unset, .unset, .unset]) rfl ?_
        show Steps p.tables e below (T31.setTop (mkF m 198 #[.val (.int p1), .val (.int p2), .val (.int p3), .val (.int p4), .val (.int (p1 &&& (3 : Int32))), .val (.int (p2 &&& (2147483647 : Int32))), .val (.int cp), .val (.int (2 : Int32)), .val (.int ov), .val (.int fb), .val (.ref ob1), .val (.int (2 : Int32)), .val (.int ((f31 (ov.toNatClampNeg)) &&& (255 : Int32))), .unset, .unset, .unset, .unset, .unset] [])) t₀
        refine XS.aload X31.here hx rfl (hb hby at_198) rfl rfl ?_
        show Steps p.tables e below (T31.setTop (mkF m 200 #[.val (.int p1), .val (.int p2), .val (.int p3), .val (.int p4), .val (.int (p1 &&& (3 : Int32))), .val (.int (p2 &&& (2147483647 : Int32))), .val (.int cp), .val (.int (2 : Int32)), .val (.int ov), .val (.int fb), .val (.ref ob1), .val (.int (2 : Int32)), .val (.int ((f31 (ov.toNatClampNeg)) &&& (255 : Int32))), .unset, .unset, .unset, .unset, .unset] [(.ref ob1)])) t₀
        refine XS.iload X31.here hx rfl (hb hby at_200) rfl ?_
        show Steps p.tables e below (T31.setTop (mkF m 202 #[.val (.int p1), .val (.int p2), .val (.int p3), .val (.int p4), .val (.int (p1 &&& (3 : Int32))), .val (.int (p2 &&& (2147483647 : Int32))), .val (.int cp), .val (.int (2 : Int32)), .val (.int ov), .val (.int fb), .val (.ref ob1), .val (.int (2 : Int32)), .val (.int ((f31 (ov.toNatClampNeg)) &&& (255 : Int32))), .unset, .unset, .unset, .unset, .unset] [(.int ov), (.ref ob1)])) t₀
        refine XS.iconst X31.here hx rfl (hb hby at_202) ?_
        show Steps p.tables e below (T31.setTop (mkF m 203 #[.val (.int p1), .val (.int p2), .val (.int p3), .val (.int p4), .val (.int (p1 &&& (3 : Int32))), .val (.int (p2 &&& (2147483647 : Int32))), .val (.int cp), .val (.int (2 : Int32)), .val (.int ov), .val (.int fb), .val (.ref ob1), .val (.int (2 : Int32)), .val (.int ((f31 (ov.toNatClampNeg)) &&& (255 : Int32))), .unset, .unset, .unset, .unset, .unset] [(.int (1 : Int32)), (.int ov), (.ref ob1)])) t₀
        refine XS.iadd X31.here hx rfl (hb hby at_203) rfl ?_
        exact k₀
      have Bc33 := B31
      obtain ⟨cl33, Ar33, sz33, Hf33⟩ := Bc33
      have ix1 := own_ix (ov := ov) (1 : Int32) 1 rfl (by decide) ho1 ho2
      have hin33 := own_inb (j := (ov + (1 : Int32))) sz33 (by omega) (by omega)
      have hat33 : cl33.slots[((ov + (1 : Int32))).toNatClampNeg]? = some (.int (f31 (ov.toNatClampNeg + 1))) := by rw [ix1.1]; exact Hf33 _ (by have q := own_nat ho1; omega)
      refine hG _ (T31.setTop (mkF m 217 #[.val (.int p1), .val (.int p2), .val (.int p3), .val (.int p4), .val (.int (p1 &&& (3 : Int32))), .val (.int (p2 &&& (2147483647 : Int32))), .val (.int cp), .val (.int (2 : Int32)), .val (.int ov), .val (.int fb), .val (.ref ob1), .val (.int (2 : Int32)), .val (.int ((f31 (ov.toNatClampNeg)) &&& (255 : Int32))), .val (.int ((f31 (ov.toNatClampNeg + 1)) &&& (255 : Int32))), .unset, .unset, .unset, .unset] [(.int (ov + (2 : Int32))), (.ref ob1)])) (fun t₀ k₀ => ?_) ?_
      · show Steps p.tables e below (T31.setTop (mkF m 204 #[.val (.int p1), .val (.int p2), .val (.int p3), .val (.int p4), .val (.int (p1 &&& (3 : Int32))), .val (.int (p2 &&& (2147483647 : Int32))), .val (.int cp), .val (.int (2 : Int32)), .val (.int ov), .val (.int fb), .val (.ref ob1), .val (.int (2 : Int32)), .val (.int ((f31 (ov.toNatClampNeg)) &&& (255 : Int32))), .unset, .unset, .unset, .unset, .unset] [(.int (ov + (1 : Int32))), (.ref ob1)])) t₀
        refine X31.baloadBytes hx (j := (ov + (1 : Int32))) (v := .int (f31 (ov.toNatClampNeg + 1))) Ar33.1 (State.isArrayOf_alike hZ.alike Ar33.2.1) Ar33.2.2 hin33 hat33 (g := (mkF m 204 #[.val (.int p1), .val (.int p2), .val (.int p3), .val (.int p4), .val (.int (p1 &&& (3 : Int32))), .val (.int (p2 &&& (2147483647 : Int32))), .val (.int cp), .val (.int (2 : Int32)), .val (.int ov), .val (.int fb), .val (.ref ob1), .val (.int (2 : Int32)), .val (.int ((f31 (ov.toNatClampNeg)) &&& (255 : Int32))), .unset, .unset, .unset, .unset, .unset] [(.int (ov + (1 : Int32))), (.ref ob1)])) rfl rfl (hb hby at_204) _ ?_
        show Steps p.tables e below (T31.setTop (mkF m 205 #[.val (.int p1), .val (.int p2), .val (.int p3), .val (.int p4), .val (.int (p1 &&& (3 : Int32))), .val (.int (p2 &&& (2147483647 : Int32))), .val (.int cp), .val (.int (2 : Int32)), .val (.int ov), .val (.int fb), .val (.ref ob1), .val (.int (2 : Int32)), .val (.int ((f31 (ov.toNatClampNeg)) &&& (255 : Int32))), .unset, .unset, .unset, .unset, .unset] [(.int (f31 (ov.toNatClampNeg + 1)))])) t₀
        refine XS.sipush X31.here hx rfl (hb hby at_205) ?_
        show Steps p.tables e below (T31.setTop (mkF m 208 #[.val (.int p1), .val (.int p2), .val (.int p3), .val (.int p4), .val (.int (p1 &&& (3 : Int32))), .val (.int (p2 &&& (2147483647 : Int32))), .val (.int cp), .val (.int (2 : Int32)), .val (.int ov), .val (.int fb), .val (.ref ob1), .val (.int (2 : Int32)), .val (.int ((f31 (ov.toNatClampNeg)) &&& (255 : Int32))), .unset, .unset, .unset, .unset, .unset] [(.int (255 : Int32)), (.int (f31 (ov.toNatClampNeg + 1)))])) t₀
        refine XS.iand X31.here hx rfl (hb hby at_208) rfl ?_
        show Steps p.tables e below (T31.setTop (mkF m 209 #[.val (.int p1), .val (.int p2), .val (.int p3), .val (.int p4), .val (.int (p1 &&& (3 : Int32))), .val (.int (p2 &&& (2147483647 : Int32))), .val (.int cp), .val (.int (2 : Int32)), .val (.int ov), .val (.int fb), .val (.ref ob1), .val (.int (2 : Int32)), .val (.int ((f31 (ov.toNatClampNeg)) &&& (255 : Int32))), .unset, .unset, .unset, .unset, .unset] [(.int ((f31 (ov.toNatClampNeg + 1)) &&& (255 : Int32)))])) t₀
        refine XS.istore X31.here hx rfl (hb hby at_209) rfl (l' := #[.val (.int p1), .val (.int p2), .val (.int p3), .val (.int p4), .val (.int (p1 &&& (3 : Int32))), .val (.int (p2 &&& (2147483647 : Int32))), .val (.int cp), .val (.int (2 : Int32)), .val (.int ov), .val (.int fb), .val (.ref ob1), .val (.int (2 : Int32)), .val (.int ((f31 (ov.toNatClampNeg)) &&& (255 : Int32))), .val (.int ((f31 (ov.toNatClampNeg + 1)) &&& (255 : Int32))), .unset, .unset, .unset, .unset]) rfl ?_
        show Steps p.tables e below (T31.setTop (mkF m 211 #[.val (.int p1), .val (.int p2), .val (.int p3), .val (.int p4), .val (.int (p1 &&& (3 : Int32))), .val (.int (p2 &&& (2147483647 : Int32))), .val (.int cp), .val (.int (2 : Int32)), .val (.int ov), .val (.int fb), .val (.ref ob1), .val (.int (2 : Int32)), .val (.int ((f31 (ov.toNatClampNeg)) &&& (255 : Int32))), .val (.int ((f31 (ov.toNatClampNeg + 1)) &&& (255 : Int32))), .unset, .unset, .unset, .unset] [])) t₀
        refine XS.aload X31.here hx rfl (hb hby at_211) rfl rfl ?_
        show Steps p.tables e below (T31.setTop (mkF m 213 #[.val (.int p1), .val (.int p2), .val (.int p3), .val (.int p4), .val (.int (p1 &&& (3 : Int32))), .val (.int (p2 &&& (2147483647 : Int32))), .val (.int cp), .val (.int (2 : Int32)), .val (.int ov), .val (.int fb), .val (.ref ob1), .val (.int (2 : Int32)), .val (.int ((f31 (ov.toNatClampNeg)) &&& (255 : Int32))), .val (.int ((f31 (ov.toNatClampNeg + 1)) &&& (255 : Int32))), .unset, .unset, .unset, .unset] [(.ref ob1)])) t₀
        refine XS.iload X31.here hx rfl (hb hby at_213) rfl ?_
        show Steps p.tables e below (T31.setTop (mkF m 215 #[.val (.int p1), .val (.int p2), .val (.int p3), .val (.int p4), .val (.int (p1 &&& (3 : Int32))), .val (.int (p2 &&& (2147483647 : Int32))), .val (.int cp), .val (.int (2 : Int32)), .val (.int ov), .val (.int fb), .val (.ref ob1), .val (.int (2 : Int32)), .val (.int ((f31 (ov.toNatClampNeg)) &&& (255 : Int32))), .val (.int ((f31 (ov.toNatClampNeg + 1)) &&& (255 : Int32))), .unset, .unset, .unset, .unset] [(.int ov), (.ref ob1)])) t₀
        refine XS.iconst X31.here hx rfl (hb hby at_215) ?_
        show Steps p.tables e below (T31.setTop (mkF m 216 #[.val (.int p1), .val (.int p2), .val (.int p3), .val (.int p4), .val (.int (p1 &&& (3 : Int32))), .val (.int (p2 &&& (2147483647 : Int32))), .val (.int cp), .val (.int (2 : Int32)), .val (.int ov), .val (.int fb), .val (.ref ob1), .val (.int (2 : Int32)), .val (.int ((f31 (ov.toNatClampNeg)) &&& (255 : Int32))), .val (.int ((f31 (ov.toNatClampNeg + 1)) &&& (255 : Int32))), .unset, .unset, .unset, .unset] [(.int (2 : Int32)), (.int ov), (.ref ob1)])) t₀
        refine XS.iadd X31.here hx rfl (hb hby at_216) rfl ?_
        exact k₀
      have Bc34 := B31
      obtain ⟨cl34, Ar34, sz34, Hf34⟩ := Bc34
      have ix2 := own_ix (ov := ov) (2 : Int32) 2 rfl (by decide) ho1 ho2
      have hin34 := own_inb (j := (ov + (2 : Int32))) sz34 (by omega) (by omega)
      have hat34 : cl34.slots[((ov + (2 : Int32))).toNatClampNeg]? = some (.int (f31 (ov.toNatClampNeg + 2))) := by rw [ix2.1]; exact Hf34 _ (by have q := own_nat ho1; omega)
      refine hG _ (T31.setTop (mkF m 230 #[.val (.int p1), .val (.int p2), .val (.int p3), .val (.int p4), .val (.int (p1 &&& (3 : Int32))), .val (.int (p2 &&& (2147483647 : Int32))), .val (.int cp), .val (.int (2 : Int32)), .val (.int ov), .val (.int fb), .val (.ref ob1), .val (.int (2 : Int32)), .val (.int ((f31 (ov.toNatClampNeg)) &&& (255 : Int32))), .val (.int ((f31 (ov.toNatClampNeg + 1)) &&& (255 : Int32))), .val (.int ((f31 (ov.toNatClampNeg + 2)) &&& (255 : Int32))), .unset, .unset, .unset] [(.int (ov + (3 : Int32))), (.ref ob1)])) (fun t₀ k₀ => ?_) ?_
      · show Steps p.tables e below (T31.setTop (mkF m 217 #[.val (.int p1), .val (.int p2), .val (.int p3), .val (.int p4), .val (.int (p1 &&& (3 : Int32))), .val (.int (p2 &&& (2147483647 : Int32))), .val (.int cp), .val (.int (2 : Int32)), .val (.int ov), .val (.int fb), .val (.ref ob1), .val (.int (2 : Int32)), .val (.int ((f31 (ov.toNatClampNeg)) &&& (255 : Int32))), .val (.int ((f31 (ov.toNatClampNeg + 1)) &&& (255 : Int32))), .unset, .unset, .unset, .unset] [(.int (ov + (2 : Int32))), (.ref ob1)])) t₀
        refine X31.baloadBytes hx (j := (ov + (2 : Int32))) (v := .int (f31 (ov.toNatClampNeg + 2))) Ar34.1 (State.isArrayOf_alike hZ.alike Ar34.2.1) Ar34.2.2 hin34 hat34 (g := (mkF m 217 #[.val (.int p1), .val (.int p2), .val (.int p3), .val (.int p4), .val (.int (p1 &&& (3 : Int32))), .val (.int (p2 &&& (2147483647 : Int32))), .val (.int cp), .val (.int (2 : Int32)), .val (.int ov), .val (.int fb), .val (.ref ob1), .val (.int (2 : Int32)), .val (.int ((f31 (ov.toNatClampNeg)) &&& (255 : Int32))), .val (.int ((f31 (ov.toNatClampNeg + 1)) &&& (255 : Int32))), .unset, .unset, .unset, .unset] [(.int (ov + (2 : Int32))), (.ref ob1)])) rfl rfl (hb hby at_217) _ ?_
        show Steps p.tables e below (T31.setTop (mkF m 218 #[.val (.int p1), .val (.int p2), .val (.int p3), .val (.int p4), .val (.int (p1 &&& (3 : Int32))), .val (.int (p2 &&& (2147483647 : Int32))), .val (.int cp), .val (.int (2 : Int32)), .val (.int ov), .val (.int fb), .val (.ref ob1), .val (.int (2 : Int32)), .val (.int ((f31 (ov.toNatClampNeg)) &&& (255 : Int32))), .val (.int ((f31 (ov.toNatClampNeg + 1)) &&& (255 : Int32))), .unset, .unset, .unset, .unset] [(.int (f31 (ov.toNatClampNeg + 2)))])) t₀
        refine XS.sipush X31.here hx rfl (hb hby at_218) ?_
        show Steps p.tables e below (T31.setTop (mkF m 221 #[.val (.int p1), .val (.int p2), .val (.int p3), .val (.int p4), .val (.int (p1 &&& (3 : Int32))), .val (.int (p2 &&& (2147483647 : Int32))), .val (.int cp), .val (.int (2 : Int32)), .val (.int ov), .val (.int fb), .val (.ref ob1), .val (.int (2 : Int32)), .val (.int ((f31 (ov.toNatClampNeg)) &&& (255 : Int32))), .val (.int ((f31 (ov.toNatClampNeg + 1)) &&& (255 : Int32))), .unset, .unset, .unset, .unset] [(.int (255 : Int32)), (.int (f31 (ov.toNatClampNeg + 2)))])) t₀
        refine XS.iand X31.here hx rfl (hb hby at_221) rfl ?_
        show Steps p.tables e below (T31.setTop (mkF m 222 #[.val (.int p1), .val (.int p2), .val (.int p3), .val (.int p4), .val (.int (p1 &&& (3 : Int32))), .val (.int (p2 &&& (2147483647 : Int32))), .val (.int cp), .val (.int (2 : Int32)), .val (.int ov), .val (.int fb), .val (.ref ob1), .val (.int (2 : Int32)), .val (.int ((f31 (ov.toNatClampNeg)) &&& (255 : Int32))), .val (.int ((f31 (ov.toNatClampNeg + 1)) &&& (255 : Int32))), .unset, .unset, .unset, .unset] [(.int ((f31 (ov.toNatClampNeg + 2)) &&& (255 : Int32)))])) t₀
        refine XS.istore X31.here hx rfl (hb hby at_222) rfl (l' := #[.val (.int p1), .val (.int p2), .val (.int p3), .val (.int p4), .val (.int (p1 &&& (3 : Int32))), .val (.int (p2 &&& (2147483647 : Int32))), .val (.int cp), .val (.int (2 : Int32)), .val (.int ov), .val (.int fb), .val (.ref ob1), .val (.int (2 : Int32)), .val (.int ((f31 (ov.toNatClampNeg)) &&& (255 : Int32))), .val (.int ((f31 (ov.toNatClampNeg + 1)) &&& (255 : Int32))), .val (.int ((f31 (ov.toNatClampNeg + 2)) &&& (255 : Int32))), .unset, .unset, .unset]) rfl ?_
        show Steps p.tables e below (T31.setTop (mkF m 224 #[.val (.int p1), .val (.int p2), .val (.int p3), .val (.int p4), .val (.int (p1 &&& (3 : Int32))), .val (.int (p2 &&& (2147483647 : Int32))), .val (.int cp), .val (.int (2 : Int32)), .val (.int ov), .val (.int fb), .val (.ref ob1), .val (.int (2 : Int32)), .val (.int ((f31 (ov.toNatClampNeg)) &&& (255 : Int32))), .val (.int ((f31 (ov.toNatClampNeg + 1)) &&& (255 : Int32))), .val (.int ((f31 (ov.toNatClampNeg + 2)) &&& (255 : Int32))), .unset, .unset, .unset] [])) t₀
        refine XS.aload X31.here hx rfl (hb hby at_224) rfl rfl ?_
        show Steps p.tables e below (T31.setTop (mkF m 226 #[.val (.int p1), .val (.int p2), .val (.int p3), .val (.int p4), .val (.int (p1 &&& (3 : Int32))), .val (.int (p2 &&& (2147483647 : Int32))), .val (.int cp), .val (.int (2 : Int32)), .val (.int ov), .val (.int fb), .val (.ref ob1), .val (.int (2 : Int32)), .val (.int ((f31 (ov.toNatClampNeg)) &&& (255 : Int32))), .val (.int ((f31 (ov.toNatClampNeg + 1)) &&& (255 : Int32))), .val (.int ((f31 (ov.toNatClampNeg + 2)) &&& (255 : Int32))), .unset, .unset, .unset] [(.ref ob1)])) t₀
        refine XS.iload X31.here hx rfl (hb hby at_226) rfl ?_
        show Steps p.tables e below (T31.setTop (mkF m 228 #[.val (.int p1), .val (.int p2), .val (.int p3), .val (.int p4), .val (.int (p1 &&& (3 : Int32))), .val (.int (p2 &&& (2147483647 : Int32))), .val (.int cp), .val (.int (2 : Int32)), .val (.int ov), .val (.int fb), .val (.ref ob1), .val (.int (2 : Int32)), .val (.int ((f31 (ov.toNatClampNeg)) &&& (255 : Int32))), .val (.int ((f31 (ov.toNatClampNeg + 1)) &&& (255 : Int32))), .val (.int ((f31 (ov.toNatClampNeg + 2)) &&& (255 : Int32))), .unset, .unset, .unset] [(.int ov), (.ref ob1)])) t₀
        refine XS.iconst X31.here hx rfl (hb hby at_228) ?_
        show Steps p.tables e below (T31.setTop (mkF m 229 #[.val (.int p1), .val (.int p2), .val (.int p3), .val (.int p4), .val (.int (p1 &&& (3 : Int32))), .val (.int (p2 &&& (2147483647 : Int32))), .val (.int cp), .val (.int (2 : Int32)), .val (.int ov), .val (.int fb), .val (.ref ob1), .val (.int (2 : Int32)), .val (.int ((f31 (ov.toNatClampNeg)) &&& (255 : Int32))), .val (.int ((f31 (ov.toNatClampNeg + 1)) &&& (255 : Int32))), .val (.int ((f31 (ov.toNatClampNeg + 2)) &&& (255 : Int32))), .unset, .unset, .unset] [(.int (3 : Int32)), (.int ov), (.ref ob1)])) t₀
        refine XS.iadd X31.here hx rfl (hb hby at_229) rfl ?_
        exact k₀
      have Bc35 := B31
      obtain ⟨cl35, Ar35, sz35, Hf35⟩ := Bc35
      have ix3 := own_ix (ov := ov) (3 : Int32) 3 rfl (by decide) ho1 ho2
      have hin35 := own_inb (j := (ov + (3 : Int32))) sz35 (by omega) (by omega)
      have hat35 : cl35.slots[((ov + (3 : Int32))).toNatClampNeg]? = some (.int (f31 (ov.toNatClampNeg + 3))) := by rw [ix3.1]; exact Hf35 _ (by have q := own_nat ho1; omega)
      refine hG _ (T31.setTop (mkF m 237 #[.val (.int p1), .val (.int p2), .val (.int p3), .val (.int p4), .val (.int (p1 &&& (3 : Int32))), .val (.int (p2 &&& (2147483647 : Int32))), .val (.int cp), .val (.int (2 : Int32)), .val (.int ov), .val (.int fb), .val (.ref ob1), .val (.int (2 : Int32)), .val (.int ((f31 (ov.toNatClampNeg)) &&& (255 : Int32))), .val (.int ((f31 (ov.toNatClampNeg + 1)) &&& (255 : Int32))), .val (.int ((f31 (ov.toNatClampNeg + 2)) &&& (255 : Int32))), .val (.int ((f31 (ov.toNatClampNeg + 3)) &&& (255 : Int32))), .unset, .unset] [])) (fun t₀ k₀ => ?_) ?_
      · show Steps p.tables e below (T31.setTop (mkF m 230 #[.val (.int p1), .val (.int p2), .val (.int p3), .val (.int p4), .val (.int (p1 &&& (3 : Int32))), .val (.int (p2 &&& (2147483647 : Int32))), .val (.int cp), .val (.int (2 : Int32)), .val (.int ov), .val (.int fb), .val (.ref ob1), .val (.int (2 : Int32)), .val (.int ((f31 (ov.toNatClampNeg)) &&& (255 : Int32))), .val (.int ((f31 (ov.toNatClampNeg + 1)) &&& (255 : Int32))), .val (.int ((f31 (ov.toNatClampNeg + 2)) &&& (255 : Int32))), .unset, .unset, .unset] [(.int (ov + (3 : Int32))), (.ref ob1)])) t₀
        refine X31.baloadBytes hx (j := (ov + (3 : Int32))) (v := .int (f31 (ov.toNatClampNeg + 3))) Ar35.1 (State.isArrayOf_alike hZ.alike Ar35.2.1) Ar35.2.2 hin35 hat35 (g := (mkF m 230 #[.val (.int p1), .val (.int p2), .val (.int p3), .val (.int p4), .val (.int (p1 &&& (3 : Int32))), .val (.int (p2 &&& (2147483647 : Int32))), .val (.int cp), .val (.int (2 : Int32)), .val (.int ov), .val (.int fb), .val (.ref ob1), .val (.int (2 : Int32)), .val (.int ((f31 (ov.toNatClampNeg)) &&& (255 : Int32))), .val (.int ((f31 (ov.toNatClampNeg + 1)) &&& (255 : Int32))), .val (.int ((f31 (ov.toNatClampNeg + 2)) &&& (255 : Int32))), .unset, .unset, .unset] [(.int (ov + (3 : Int32))), (.ref ob1)])) rfl rfl (hb hby at_230) _ ?_
        show Steps p.tables e below (T31.setTop (mkF m 231 #[.val (.int p1), .val (.int p2), .val (.int p3), .val (.int p4), .val (.int (p1 &&& (3 : Int32))), .val (.int (p2 &&& (2147483647 : Int32))), .val (.int cp), .val (.int (2 : Int32)), .val (.int ov), .val (.int fb), .val (.ref ob1), .val (.int (2 : Int32)), .val (.int ((f31 (ov.toNatClampNeg)) &&& (255 : Int32))), .val (.int ((f31 (ov.toNatClampNeg + 1)) &&& (255 : Int32))), .val (.int ((f31 (ov.toNatClampNeg + 2)) &&& (255 : Int32))), .unset, .unset, .unset] [(.int (f31 (ov.toNatClampNeg + 3)))])) t₀
        refine XS.sipush X31.here hx rfl (hb hby at_231) ?_
        show Steps p.tables e below (T31.setTop (mkF m 234 #[.val (.int p1), .val (.int p2), .val (.int p3), .val (.int p4), .val (.int (p1 &&& (3 : Int32))), .val (.int (p2 &&& (2147483647 : Int32))), .val (.int cp), .val (.int (2 : Int32)), .val (.int ov), .val (.int fb), .val (.ref ob1), .val (.int (2 : Int32)), .val (.int ((f31 (ov.toNatClampNeg)) &&& (255 : Int32))), .val (.int ((f31 (ov.toNatClampNeg + 1)) &&& (255 : Int32))), .val (.int ((f31 (ov.toNatClampNeg + 2)) &&& (255 : Int32))), .unset, .unset, .unset] [(.int (255 : Int32)), (.int (f31 (ov.toNatClampNeg + 3)))])) t₀
        refine XS.iand X31.here hx rfl (hb hby at_234) rfl ?_
        show Steps p.tables e below (T31.setTop (mkF m 235 #[.val (.int p1), .val (.int p2), .val (.int p3), .val (.int p4), .val (.int (p1 &&& (3 : Int32))), .val (.int (p2 &&& (2147483647 : Int32))), .val (.int cp), .val (.int (2 : Int32)), .val (.int ov), .val (.int fb), .val (.ref ob1), .val (.int (2 : Int32)), .val (.int ((f31 (ov.toNatClampNeg)) &&& (255 : Int32))), .val (.int ((f31 (ov.toNatClampNeg + 1)) &&& (255 : Int32))), .val (.int ((f31 (ov.toNatClampNeg + 2)) &&& (255 : Int32))), .unset, .unset, .unset] [(.int ((f31 (ov.toNatClampNeg + 3)) &&& (255 : Int32)))])) t₀
        refine XS.istore X31.here hx rfl (hb hby at_235) rfl (l' := #[.val (.int p1), .val (.int p2), .val (.int p3), .val (.int p4), .val (.int (p1 &&& (3 : Int32))), .val (.int (p2 &&& (2147483647 : Int32))), .val (.int cp), .val (.int (2 : Int32)), .val (.int ov), .val (.int fb), .val (.ref ob1), .val (.int (2 : Int32)), .val (.int ((f31 (ov.toNatClampNeg)) &&& (255 : Int32))), .val (.int ((f31 (ov.toNatClampNeg + 1)) &&& (255 : Int32))), .val (.int ((f31 (ov.toNatClampNeg + 2)) &&& (255 : Int32))), .val (.int ((f31 (ov.toNatClampNeg + 3)) &&& (255 : Int32))), .unset, .unset]) rfl ?_
        exact k₀
      obtain ⟨b0, hb0⟩ : ∃ z, z = ((f31 (ov.toNatClampNeg)) &&& (255 : Int32)) := ⟨_, rfl⟩
      rw [← hb0]
      show G (T31.setTop (mkF m 237 #[.val (.int p1), .val (.int p2), .val (.int p3), .val (.int p4), .val (.int (p1 &&& (3 : Int32))), .val (.int (p2 &&& (2147483647 : Int32))), .val (.int cp), .val (.int (2 : Int32)), .val (.int ov), .val (.int fb), .val (.ref ob1), .val (.int (2 : Int32)), .val (.int b0), .val (.int ((f31 (ov.toNatClampNeg + 1)) &&& (255 : Int32))), .val (.int ((f31 (ov.toNatClampNeg + 2)) &&& (255 : Int32))), .val (.int ((f31 (ov.toNatClampNeg + 3)) &&& (255 : Int32))), .unset, .unset] []))
      obtain ⟨c1, hc1⟩ : ∃ z, z = ((f31 (ov.toNatClampNeg + 1)) &&& (255 : Int32)) := ⟨_, rfl⟩
      rw [← hc1]
      show G (T31.setTop (mkF m 237 #[.val (.int p1), .val (.int p2), .val (.int p3), .val (.int p4), .val (.int (p1 &&& (3 : Int32))), .val (.int (p2 &&& (2147483647 : Int32))), .val (.int cp), .val (.int (2 : Int32)), .val (.int ov), .val (.int fb), .val (.ref ob1), .val (.int (2 : Int32)), .val (.int b0), .val (.int c1), .val (.int ((f31 (ov.toNatClampNeg + 2)) &&& (255 : Int32))), .val (.int ((f31 (ov.toNatClampNeg + 3)) &&& (255 : Int32))), .unset, .unset] []))
      obtain ⟨c2, hc2⟩ : ∃ z, z = ((f31 (ov.toNatClampNeg + 2)) &&& (255 : Int32)) := ⟨_, rfl⟩
      rw [← hc2]
      show G (T31.setTop (mkF m 237 #[.val (.int p1), .val (.int p2), .val (.int p3), .val (.int p4), .val (.int (p1 &&& (3 : Int32))), .val (.int (p2 &&& (2147483647 : Int32))), .val (.int cp), .val (.int (2 : Int32)), .val (.int ov), .val (.int fb), .val (.ref ob1), .val (.int (2 : Int32)), .val (.int b0), .val (.int c1), .val (.int c2), .val (.int ((f31 (ov.toNatClampNeg + 3)) &&& (255 : Int32))), .unset, .unset] []))
      obtain ⟨c3, hc3⟩ : ∃ z, z = ((f31 (ov.toNatClampNeg + 3)) &&& (255 : Int32)) := ⟨_, rfl⟩
      rw [← hc3]
      show G (T31.setTop (mkF m 237 #[.val (.int p1), .val (.int p2), .val (.int p3), .val (.int p4), .val (.int (p1 &&& (3 : Int32))), .val (.int (p2 &&& (2147483647 : Int32))), .val (.int cp), .val (.int (2 : Int32)), .val (.int ov), .val (.int fb), .val (.ref ob1), .val (.int (2 : Int32)), .val (.int b0), .val (.int c1), .val (.int c2), .val (.int c3), .unset, .unset] []))
      rw [y031] at hb0
      have v0 : b0.toInt = 192 + cp.toInt / 64 := own_byte (own_lead (192 : Int32) cp (6 : Int32) 6 rfl 5 (by decide) 192 rfl (by decide) (by decide) (by omega) (by omega) (by decide)) (by omega) (by omega) hb0
      rw [y131] at hc1
      have v1 : c1.toInt = 128 + cp.toInt / 1 % 64 := own_byte (own_cont cp (0 : Int32) 0 rfl) (by omega) (by omega) hc1
      refine hG _ (T31.setTop (mkF m 501 #[.val (.int p1), .val (.int p2), .val (.int p3), .val (.int p4), .val (.int (p1 &&& (3 : Int32))), .val (.int (p2 &&& (2147483647 : Int32))), .val (.int cp), .val (.int (2 : Int32)), .val (.int ov), .val (.int fb), .val (.ref ob1), .val (.int (2 : Int32)), .val (.int b0), .val (.int c1), .val (.int c2), .val (.int c3), .val (.int (1 : Int32)), .val (.int (((b0 &&& (31 : Int32)) <<< ((6 : Int32) &&& 31)) ||| (c1 &&& (63 : Int32))))] [])) (fun t₀ k₀ => ?_) ?_
      · show Steps p.tables e below (T31.setTop (mkF m 237 #[.val (.int p1), .val (.int p2), .val (.int p3), .val (.int p4), .val (.int (p1 &&& (3 : Int32))), .val (.int (p2 &&& (2147483647 : Int32))), .val (.int cp), .val (.int (2 : Int32)), .val (.int ov), .val (.int fb), .val (.ref ob1), .val (.int (2 : Int32)), .val (.int b0), .val (.int c1), .val (.int c2), .val (.int c3), .unset, .unset] [])) t₀
        refine XS.iload X31.here hx rfl (hb hby at_237) rfl ?_
        show Steps p.tables e below (T31.setTop (mkF m 239 #[.val (.int p1), .val (.int p2), .val (.int p3), .val (.int p4), .val (.int (p1 &&& (3 : Int32))), .val (.int (p2 &&& (2147483647 : Int32))), .val (.int cp), .val (.int (2 : Int32)), .val (.int ov), .val (.int fb), .val (.ref ob1), .val (.int (2 : Int32)), .val (.int b0), .val (.int c1), .val (.int c2), .val (.int c3), .unset, .unset] [(.int (2 : Int32))])) t₀
        refine XS.iconst X31.here hx rfl (hb hby at_239) ?_
        show Steps p.tables e below (T31.setTop (mkF m 240 #[.val (.int p1), .val (.int p2), .val (.int p3), .val (.int p4), .val (.int (p1 &&& (3 : Int32))), .val (.int (p2 &&& (2147483647 : Int32))), .val (.int cp), .val (.int (2 : Int32)), .val (.int ov), .val (.int fb), .val (.ref ob1), .val (.int (2 : Int32)), .val (.int b0), .val (.int c1), .val (.int c2), .val (.int c3), .unset, .unset] [(.int (1 : Int32)), (.int (2 : Int32))])) t₀
        refine XS.icmpYes X31.here hx rfl (pc0 := 240) (pc' := 265) rfl (hb hby at_240) rfl (feq (by decide : ¬ ((2 : Int32) = (1 : Int32)))).2 (by decide) (by decide) ?_
        show Steps p.tables e below (T31.setTop (mkF m 265 #[.val (.int p1), .val (.int p2), .val (.int p3), .val (.int p4), .val (.int (p1 &&& (3 : Int32))), .val (.int (p2 &&& (2147483647 : Int32))), .val (.int cp), .val (.int (2 : Int32)), .val (.int ov), .val (.int fb), .val (.ref ob1), .val (.int (2 : Int32)), .val (.int b0), .val (.int c1), .val (.int c2), .val (.int c3), .unset, .unset] [])) t₀
        refine XS.iload X31.here hx rfl (hb hby at_265) rfl ?_
        show Steps p.tables e below (T31.setTop (mkF m 267 #[.val (.int p1), .val (.int p2), .val (.int p3), .val (.int p4), .val (.int (p1 &&& (3 : Int32))), .val (.int (p2 &&& (2147483647 : Int32))), .val (.int cp), .val (.int (2 : Int32)), .val (.int ov), .val (.int fb), .val (.ref ob1), .val (.int (2 : Int32)), .val (.int b0), .val (.int c1), .val (.int c2), .val (.int c3), .unset, .unset] [(.int (2 : Int32))])) t₀
        refine XS.iconst X31.here hx rfl (hb hby at_267) ?_
        show Steps p.tables e below (T31.setTop (mkF m 268 #[.val (.int p1), .val (.int p2), .val (.int p3), .val (.int p4), .val (.int (p1 &&& (3 : Int32))), .val (.int (p2 &&& (2147483647 : Int32))), .val (.int cp), .val (.int (2 : Int32)), .val (.int ov), .val (.int fb), .val (.ref ob1), .val (.int (2 : Int32)), .val (.int b0), .val (.int c1), .val (.int c2), .val (.int c3), .unset, .unset] [(.int (2 : Int32)), (.int (2 : Int32))])) t₀
        refine XS.icmpNo X31.here hx rfl (hb hby at_268) rfl (teq (by decide : ((2 : Int32) = (2 : Int32)))).2 ?_
        show Steps p.tables e below (T31.setTop (mkF m 271 #[.val (.int p1), .val (.int p2), .val (.int p3), .val (.int p4), .val (.int (p1 &&& (3 : Int32))), .val (.int (p2 &&& (2147483647 : Int32))), .val (.int cp), .val (.int (2 : Int32)), .val (.int ov), .val (.int fb), .val (.ref ob1), .val (.int (2 : Int32)), .val (.int b0), .val (.int c1), .val (.int c2), .val (.int c3), .unset, .unset] [])) t₀
        refine XS.iload X31.here hx rfl (hb hby at_271) rfl ?_
        show Steps p.tables e below (T31.setTop (mkF m 273 #[.val (.int p1), .val (.int p2), .val (.int p3), .val (.int p4), .val (.int (p1 &&& (3 : Int32))), .val (.int (p2 &&& (2147483647 : Int32))), .val (.int cp), .val (.int (2 : Int32)), .val (.int ov), .val (.int fb), .val (.ref ob1), .val (.int (2 : Int32)), .val (.int b0), .val (.int c1), .val (.int c2), .val (.int c3), .unset, .unset] [(.int b0)])) t₀
        refine XS.sipush X31.here hx rfl (hb hby at_273) ?_
        show Steps p.tables e below (T31.setTop (mkF m 276 #[.val (.int p1), .val (.int p2), .val (.int p3), .val (.int p4), .val (.int (p1 &&& (3 : Int32))), .val (.int (p2 &&& (2147483647 : Int32))), .val (.int cp), .val (.int (2 : Int32)), .val (.int ov), .val (.int fb), .val (.ref ob1), .val (.int (2 : Int32)), .val (.int b0), .val (.int c1), .val (.int c2), .val (.int c3), .unset, .unset] [(.int (224 : Int32)), (.int b0)])) t₀
        refine XS.iand X31.here hx rfl (hb hby at_276) rfl ?_
        show Steps p.tables e below (T31.setTop (mkF m 277 #[.val (.int p1), .val (.int p2), .val (.int p3), .val (.int p4), .val (.int (p1 &&& (3 : Int32))), .val (.int (p2 &&& (2147483647 : Int32))), .val (.int cp), .val (.int (2 : Int32)), .val (.int ov), .val (.int fb), .val (.ref ob1), .val (.int (2 : Int32)), .val (.int b0), .val (.int c1), .val (.int c2), .val (.int c3), .unset, .unset] [(.int (b0 &&& (224 : Int32)))])) t₀
        refine XS.sipush X31.here hx rfl (hb hby at_277) ?_
        show Steps p.tables e below (T31.setTop (mkF m 280 #[.val (.int p1), .val (.int p2), .val (.int p3), .val (.int p4), .val (.int (p1 &&& (3 : Int32))), .val (.int (p2 &&& (2147483647 : Int32))), .val (.int cp), .val (.int (2 : Int32)), .val (.int ov), .val (.int fb), .val (.ref ob1), .val (.int (2 : Int32)), .val (.int b0), .val (.int c1), .val (.int c2), .val (.int c3), .unset, .unset] [(.int (192 : Int32)), (.int (b0 &&& (224 : Int32)))])) t₀
        refine XS.icmpNo X31.here hx rfl (hb hby at_280) rfl (teq (own_224 (by omega) (by omega))).2 ?_
        show Steps p.tables e below (T31.setTop (mkF m 283 #[.val (.int p1), .val (.int p2), .val (.int p3), .val (.int p4), .val (.int (p1 &&& (3 : Int32))), .val (.int (p2 &&& (2147483647 : Int32))), .val (.int cp), .val (.int (2 : Int32)), .val (.int ov), .val (.int fb), .val (.ref ob1), .val (.int (2 : Int32)), .val (.int b0), .val (.int c1), .val (.int c2), .val (.int c3), .unset, .unset] [])) t₀
        refine XS.iload X31.here hx rfl (hb hby at_283) rfl ?_
        show Steps p.tables e below (T31.setTop (mkF m 285 #[.val (.int p1), .val (.int p2), .val (.int p3), .val (.int p4), .val (.int (p1 &&& (3 : Int32))), .val (.int (p2 &&& (2147483647 : Int32))), .val (.int cp), .val (.int (2 : Int32)), .val (.int ov), .val (.int fb), .val (.ref ob1), .val (.int (2 : Int32)), .val (.int b0), .val (.int c1), .val (.int c2), .val (.int c3), .unset, .unset] [(.int c1)])) t₀
        refine XS.sipush X31.here hx rfl (hb hby at_285) ?_
        show Steps p.tables e below (T31.setTop (mkF m 288 #[.val (.int p1), .val (.int p2), .val (.int p3), .val (.int p4), .val (.int (p1 &&& (3 : Int32))), .val (.int (p2 &&& (2147483647 : Int32))), .val (.int cp), .val (.int (2 : Int32)), .val (.int ov), .val (.int fb), .val (.ref ob1), .val (.int (2 : Int32)), .val (.int b0), .val (.int c1), .val (.int c2), .val (.int c3), .unset, .unset] [(.int (192 : Int32)), (.int c1)])) t₀
        refine XS.iand X31.here hx rfl (hb hby at_288) rfl ?_
        show Steps p.tables e below (T31.setTop (mkF m 289 #[.val (.int p1), .val (.int p2), .val (.int p3), .val (.int p4), .val (.int (p1 &&& (3 : Int32))), .val (.int (p2 &&& (2147483647 : Int32))), .val (.int cp), .val (.int (2 : Int32)), .val (.int ov), .val (.int fb), .val (.ref ob1), .val (.int (2 : Int32)), .val (.int b0), .val (.int c1), .val (.int c2), .val (.int c3), .unset, .unset] [(.int (c1 &&& (192 : Int32)))])) t₀
        refine XS.sipush X31.here hx rfl (hb hby at_289) ?_
        show Steps p.tables e below (T31.setTop (mkF m 292 #[.val (.int p1), .val (.int p2), .val (.int p3), .val (.int p4), .val (.int (p1 &&& (3 : Int32))), .val (.int (p2 &&& (2147483647 : Int32))), .val (.int cp), .val (.int (2 : Int32)), .val (.int ov), .val (.int fb), .val (.ref ob1), .val (.int (2 : Int32)), .val (.int b0), .val (.int c1), .val (.int c2), .val (.int c3), .unset, .unset] [(.int (128 : Int32)), (.int (c1 &&& (192 : Int32)))])) t₀
        refine XS.icmpNo X31.here hx rfl (hb hby at_292) rfl (teq (own_192 (by omega) (by omega))).2 ?_
        show Steps p.tables e below (T31.setTop (mkF m 295 #[.val (.int p1), .val (.int p2), .val (.int p3), .val (.int p4), .val (.int (p1 &&& (3 : Int32))), .val (.int (p2 &&& (2147483647 : Int32))), .val (.int cp), .val (.int (2 : Int32)), .val (.int ov), .val (.int fb), .val (.ref ob1), .val (.int (2 : Int32)), .val (.int b0), .val (.int c1), .val (.int c2), .val (.int c3), .unset, .unset] [])) t₀
        refine XS.iconst X31.here hx rfl (hb hby at_295) ?_
        show Steps p.tables e below (T31.setTop (mkF m 296 #[.val (.int p1), .val (.int p2), .val (.int p3), .val (.int p4), .val (.int (p1 &&& (3 : Int32))), .val (.int (p2 &&& (2147483647 : Int32))), .val (.int cp), .val (.int (2 : Int32)), .val (.int ov), .val (.int fb), .val (.ref ob1), .val (.int (2 : Int32)), .val (.int b0), .val (.int c1), .val (.int c2), .val (.int c3), .unset, .unset] [(.int (1 : Int32))])) t₀
        refine XS.goto X31.here hx rfl (pc0 := 296) (pc' := 300) rfl (hb hby at_296) (by decide) (by decide) ?_
        show Steps p.tables e below (T31.setTop (mkF m 300 #[.val (.int p1), .val (.int p2), .val (.int p3), .val (.int p4), .val (.int (p1 &&& (3 : Int32))), .val (.int (p2 &&& (2147483647 : Int32))), .val (.int cp), .val (.int (2 : Int32)), .val (.int ov), .val (.int fb), .val (.ref ob1), .val (.int (2 : Int32)), .val (.int b0), .val (.int c1), .val (.int c2), .val (.int c3), .unset, .unset] [(.int (1 : Int32))])) t₀
        refine XS.istore X31.here hx rfl (hb hby at_300) rfl (l' := #[.val (.int p1), .val (.int p2), .val (.int p3), .val (.int p4), .val (.int (p1 &&& (3 : Int32))), .val (.int (p2 &&& (2147483647 : Int32))), .val (.int cp), .val (.int (2 : Int32)), .val (.int ov), .val (.int fb), .val (.ref ob1), .val (.int (2 : Int32)), .val (.int b0), .val (.int c1), .val (.int c2), .val (.int c3), .val (.int (1 : Int32)), .unset]) rfl ?_
        show Steps p.tables e below (T31.setTop (mkF m 302 #[.val (.int p1), .val (.int p2), .val (.int p3), .val (.int p4), .val (.int (p1 &&& (3 : Int32))), .val (.int (p2 &&& (2147483647 : Int32))), .val (.int cp), .val (.int (2 : Int32)), .val (.int ov), .val (.int fb), .val (.ref ob1), .val (.int (2 : Int32)), .val (.int b0), .val (.int c1), .val (.int c2), .val (.int c3), .val (.int (1 : Int32)), .unset] [])) t₀
        refine XS.iload X31.here hx rfl (hb hby at_302) rfl ?_
        show Steps p.tables e below (T31.setTop (mkF m 304 #[.val (.int p1), .val (.int p2), .val (.int p3), .val (.int p4), .val (.int (p1 &&& (3 : Int32))), .val (.int (p2 &&& (2147483647 : Int32))), .val (.int cp), .val (.int (2 : Int32)), .val (.int ov), .val (.int fb), .val (.ref ob1), .val (.int (2 : Int32)), .val (.int b0), .val (.int c1), .val (.int c2), .val (.int c3), .val (.int (1 : Int32)), .unset] [(.int b0)])) t₀
        refine XS.bipush X31.here hx rfl (hb hby at_304) ?_
        show Steps p.tables e below (T31.setTop (mkF m 306 #[.val (.int p1), .val (.int p2), .val (.int p3), .val (.int p4), .val (.int (p1 &&& (3 : Int32))), .val (.int (p2 &&& (2147483647 : Int32))), .val (.int cp), .val (.int (2 : Int32)), .val (.int ov), .val (.int fb), .val (.ref ob1), .val (.int (2 : Int32)), .val (.int b0), .val (.int c1), .val (.int c2), .val (.int c3), .val (.int (1 : Int32)), .unset] [(.int (31 : Int32)), (.int b0)])) t₀
        refine XS.iand X31.here hx rfl (hb hby at_306) rfl ?_
        show Steps p.tables e below (T31.setTop (mkF m 307 #[.val (.int p1), .val (.int p2), .val (.int p3), .val (.int p4), .val (.int (p1 &&& (3 : Int32))), .val (.int (p2 &&& (2147483647 : Int32))), .val (.int cp), .val (.int (2 : Int32)), .val (.int ov), .val (.int fb), .val (.ref ob1), .val (.int (2 : Int32)), .val (.int b0), .val (.int c1), .val (.int c2), .val (.int c3), .val (.int (1 : Int32)), .unset] [(.int (b0 &&& (31 : Int32)))])) t₀
        refine XS.bipush X31.here hx rfl (hb hby at_307) ?_
        show Steps p.tables e below (T31.setTop (mkF m 309 #[.val (.int p1), .val (.int p2), .val (.int p3), .val (.int p4), .val (.int (p1 &&& (3 : Int32))), .val (.int (p2 &&& (2147483647 : Int32))), .val (.int cp), .val (.int (2 : Int32)), .val (.int ov), .val (.int fb), .val (.ref ob1), .val (.int (2 : Int32)), .val (.int b0), .val (.int c1), .val (.int c2), .val (.int c3), .val (.int (1 : Int32)), .unset] [(.int (6 : Int32)), (.int (b0 &&& (31 : Int32)))])) t₀
        refine XS.ishl X31.here hx rfl (hb hby at_309) rfl ?_
        show Steps p.tables e below (T31.setTop (mkF m 310 #[.val (.int p1), .val (.int p2), .val (.int p3), .val (.int p4), .val (.int (p1 &&& (3 : Int32))), .val (.int (p2 &&& (2147483647 : Int32))), .val (.int cp), .val (.int (2 : Int32)), .val (.int ov), .val (.int fb), .val (.ref ob1), .val (.int (2 : Int32)), .val (.int b0), .val (.int c1), .val (.int c2), .val (.int c3), .val (.int (1 : Int32)), .unset] [(.int ((b0 &&& (31 : Int32)) <<< ((6 : Int32) &&& 31)))])) t₀
        refine XS.iload X31.here hx rfl (hb hby at_310) rfl ?_
        show Steps p.tables e below (T31.setTop (mkF m 312 #[.val (.int p1), .val (.int p2), .val (.int p3), .val (.int p4), .val (.int (p1 &&& (3 : Int32))), .val (.int (p2 &&& (2147483647 : Int32))), .val (.int cp), .val (.int (2 : Int32)), .val (.int ov), .val (.int fb), .val (.ref ob1), .val (.int (2 : Int32)), .val (.int b0), .val (.int c1), .val (.int c2), .val (.int c3), .val (.int (1 : Int32)), .unset] [(.int c1), (.int ((b0 &&& (31 : Int32)) <<< ((6 : Int32) &&& 31)))])) t₀
        refine XS.bipush X31.here hx rfl (hb hby at_312) ?_
        show Steps p.tables e below (T31.setTop (mkF m 314 #[.val (.int p1), .val (.int p2), .val (.int p3), .val (.int p4), .val (.int (p1 &&& (3 : Int32))), .val (.int (p2 &&& (2147483647 : Int32))), .val (.int cp), .val (.int (2 : Int32)), .val (.int ov), .val (.int fb), .val (.ref ob1), .val (.int (2 : Int32)), .val (.int b0), .val (.int c1), .val (.int c2), .val (.int c3), .val (.int (1 : Int32)), .unset] [(.int (63 : Int32)), (.int c1), (.int ((b0 &&& (31 : Int32)) <<< ((6 : Int32) &&& 31)))])) t₀
        refine XS.iand X31.here hx rfl (hb hby at_314) rfl ?_
        show Steps p.tables e below (T31.setTop (mkF m 315 #[.val (.int p1), .val (.int p2), .val (.int p3), .val (.int p4), .val (.int (p1 &&& (3 : Int32))), .val (.int (p2 &&& (2147483647 : Int32))), .val (.int cp), .val (.int (2 : Int32)), .val (.int ov), .val (.int fb), .val (.ref ob1), .val (.int (2 : Int32)), .val (.int b0), .val (.int c1), .val (.int c2), .val (.int c3), .val (.int (1 : Int32)), .unset] [(.int (c1 &&& (63 : Int32))), (.int ((b0 &&& (31 : Int32)) <<< ((6 : Int32) &&& 31)))])) t₀
        refine XS.ior X31.here hx rfl (hb hby at_315) rfl ?_
        show Steps p.tables e below (T31.setTop (mkF m 316 #[.val (.int p1), .val (.int p2), .val (.int p3), .val (.int p4), .val (.int (p1 &&& (3 : Int32))), .val (.int (p2 &&& (2147483647 : Int32))), .val (.int cp), .val (.int (2 : Int32)), .val (.int ov), .val (.int fb), .val (.ref ob1), .val (.int (2 : Int32)), .val (.int b0), .val (.int c1), .val (.int c2), .val (.int c3), .val (.int (1 : Int32)), .unset] [(.int (((b0 &&& (31 : Int32)) <<< ((6 : Int32) &&& 31)) ||| (c1 &&& (63 : Int32))))])) t₀
        refine XS.istore X31.here hx rfl (hb hby at_316) rfl (l' := #[.val (.int p1), .val (.int p2), .val (.int p3), .val (.int p4), .val (.int (p1 &&& (3 : Int32))), .val (.int (p2 &&& (2147483647 : Int32))), .val (.int cp), .val (.int (2 : Int32)), .val (.int ov), .val (.int fb), .val (.ref ob1), .val (.int (2 : Int32)), .val (.int b0), .val (.int c1), .val (.int c2), .val (.int c3), .val (.int (1 : Int32)), .val (.int (((b0 &&& (31 : Int32)) <<< ((6 : Int32) &&& 31)) ||| (c1 &&& (63 : Int32))))]) rfl ?_
        show Steps p.tables e below (T31.setTop (mkF m 318 #[.val (.int p1), .val (.int p2), .val (.int p3), .val (.int p4), .val (.int (p1 &&& (3 : Int32))), .val (.int (p2 &&& (2147483647 : Int32))), .val (.int cp), .val (.int (2 : Int32)), .val (.int ov), .val (.int fb), .val (.ref ob1), .val (.int (2 : Int32)), .val (.int b0), .val (.int c1), .val (.int c2), .val (.int c3), .val (.int (1 : Int32)), .val (.int (((b0 &&& (31 : Int32)) <<< ((6 : Int32) &&& 31)) ||| (c1 &&& (63 : Int32))))] [])) t₀
        refine XS.goto X31.here hx rfl (pc0 := 318) (pc' := 487) rfl (hb hby at_318) (by decide) (by decide) ?_
        show Steps p.tables e below (T31.setTop (mkF m 487 #[.val (.int p1), .val (.int p2), .val (.int p3), .val (.int p4), .val (.int (p1 &&& (3 : Int32))), .val (.int (p2 &&& (2147483647 : Int32))), .val (.int cp), .val (.int (2 : Int32)), .val (.int ov), .val (.int fb), .val (.ref ob1), .val (.int (2 : Int32)), .val (.int b0), .val (.int c1), .val (.int c2), .val (.int c3), .val (.int (1 : Int32)), .val (.int (((b0 &&& (31 : Int32)) <<< ((6 : Int32) &&& 31)) ||| (c1 &&& (63 : Int32))))] [])) t₀
        refine XS.iload X31.here hx rfl (hb hby at_487) rfl ?_
        show Steps p.tables e below (T31.setTop (mkF m 489 #[.val (.int p1), .val (.int p2), .val (.int p3), .val (.int p4), .val (.int (p1 &&& (3 : Int32))), .val (.int (p2 &&& (2147483647 : Int32))), .val (.int cp), .val (.int (2 : Int32)), .val (.int ov), .val (.int fb), .val (.ref ob1), .val (.int (2 : Int32)), .val (.int b0), .val (.int c1), .val (.int c2), .val (.int c3), .val (.int (1 : Int32)), .val (.int (((b0 &&& (31 : Int32)) <<< ((6 : Int32) &&& 31)) ||| (c1 &&& (63 : Int32))))] [(.int (1 : Int32))])) t₀
        refine XS.ifNo X31.here hx rfl (hb hby at_489) rfl ((if0 _ _).trans (feq (by decide : ¬ ((1 : Int32) = (0 : Int32)))).1) ?_
        show Steps p.tables e below (T31.setTop (mkF m 492 #[.val (.int p1), .val (.int p2), .val (.int p3), .val (.int p4), .val (.int (p1 &&& (3 : Int32))), .val (.int (p2 &&& (2147483647 : Int32))), .val (.int cp), .val (.int (2 : Int32)), .val (.int ov), .val (.int fb), .val (.ref ob1), .val (.int (2 : Int32)), .val (.int b0), .val (.int c1), .val (.int c2), .val (.int c3), .val (.int (1 : Int32)), .val (.int (((b0 &&& (31 : Int32)) <<< ((6 : Int32) &&& 31)) ||| (c1 &&& (63 : Int32))))] [])) t₀
        refine XS.iload X31.here hx rfl (hb hby at_492) rfl ?_
        show Steps p.tables e below (T31.setTop (mkF m 494 #[.val (.int p1), .val (.int p2), .val (.int p3), .val (.int p4), .val (.int (p1 &&& (3 : Int32))), .val (.int (p2 &&& (2147483647 : Int32))), .val (.int cp), .val (.int (2 : Int32)), .val (.int ov), .val (.int fb), .val (.ref ob1), .val (.int (2 : Int32)), .val (.int b0), .val (.int c1), .val (.int c2), .val (.int c3), .val (.int (1 : Int32)), .val (.int (((b0 &&& (31 : Int32)) <<< ((6 : Int32) &&& 31)) ||| (c1 &&& (63 : Int32))))] [(.int (((b0 &&& (31 : Int32)) <<< ((6 : Int32) &&& 31)) ||| (c1 &&& (63 : Int32))))])) t₀
        refine XS.iload X31.here hx rfl (hb hby at_494) rfl ?_
        show Steps p.tables e below (T31.setTop (mkF m 496 #[.val (.int p1), .val (.int p2), .val (.int p3), .val (.int p4), .val (.int (p1 &&& (3 : Int32))), .val (.int (p2 &&& (2147483647 : Int32))), .val (.int cp), .val (.int (2 : Int32)), .val (.int ov), .val (.int fb), .val (.ref ob1), .val (.int (2 : Int32)), .val (.int b0), .val (.int c1), .val (.int c2), .val (.int c3), .val (.int (1 : Int32)), .val (.int (((b0 &&& (31 : Int32)) <<< ((6 : Int32) &&& 31)) ||| (c1 &&& (63 : Int32))))] [(.int cp), (.int (((b0 &&& (31 : Int32)) <<< ((6 : Int32) &&& 31)) ||| (c1 &&& (63 : Int32))))])) t₀
        refine XS.icmpYes X31.here hx rfl (pc0 := 496) (pc' := 501) rfl (hb hby at_496) rfl (teq (own_dec2 (by omega) (by omega) (by omega) (by omega))).1 (by decide) (by decide) ?_
        exact k₀
      exact tlK T31 T31.heap _ X31 rfl N31 z_x31 _ B31 _ _ _ _ _ _ (own_hk (2 : Int32) 2 rfl (by decide) ho1 ho2 hk31)
    ·
      obtain ⟨hwt, hl, hu⟩ := hW
      subst hwt
      show G (T17.setTop (mkF m 167 #[.val (.int p1), .val (.int p2), .val (.int p3), .val (.int p4), .val (.int (p1 &&& (3 : Int32))), .val (.int (p2 &&& (2147483647 : Int32))), .val (.int cp), .val (.int (3 : Int32)), .val (.int ov), .val (.int fb), .val (.ref ob1), .unset, .unset, .unset, .unset, .unset, .unset, .unset] []))
      refine hG _ (T17.setTop (mkF m 173 #[.val (.int p1), .val (.int p2), .val (.int p3), .val (.int p4), .val (.int (p1 &&& (3 : Int32))), .val (.int (p2 &&& (2147483647 : Int32))), .val (.int cp), .val (.int (3 : Int32)), .val (.int ov), .val (.int fb), .val (.ref ob1), .unset, .unset, .unset, .unset, .unset, .unset, .unset] [(.int ov), (.ref ob1), (.int cp)])) (fun t₀ k₀ => ?_) ?_
      · show Steps p.tables e below (T17.setTop (mkF m 167 #[.val (.int p1), .val (.int p2), .val (.int p3), .val (.int p4), .val (.int (p1 &&& (3 : Int32))), .val (.int (p2 &&& (2147483647 : Int32))), .val (.int cp), .val (.int (3 : Int32)), .val (.int ov), .val (.int fb), .val (.ref ob1), .unset, .unset, .unset, .unset, .unset, .unset, .unset] [])) t₀
        refine XS.iload X17.here hx rfl (hb hby at_167) rfl ?_
        show Steps p.tables e below (T17.setTop (mkF m 169 #[.val (.int p1), .val (.int p2), .val (.int p3), .val (.int p4), .val (.int (p1 &&& (3 : Int32))), .val (.int (p2 &&& (2147483647 : Int32))), .val (.int cp), .val (.int (3 : Int32)), .val (.int ov), .val (.int fb), .val (.ref ob1), .unset, .unset, .unset, .unset, .unset, .unset, .unset] [(.int cp)])) t₀
        refine XS.aload X17.here hx rfl (hb hby at_169) rfl rfl ?_
        show Steps p.tables e below (T17.setTop (mkF m 171 #[.val (.int p1), .val (.int p2), .val (.int p3), .val (.int p4), .val (.int (p1 &&& (3 : Int32))), .val (.int (p2 &&& (2147483647 : Int32))), .val (.int cp), .val (.int (3 : Int32)), .val (.int ov), .val (.int fb), .val (.ref ob1), .unset, .unset, .unset, .unset, .unset, .unset, .unset] [(.ref ob1), (.int cp)])) t₀
        refine XS.iload X17.here hx rfl (hb hby at_171) rfl ?_
        exact k₀
      obtain ⟨_, _, ⟨T36, L36, k36, n36⟩, -, X36, ⟨Lc36, hQ36, l36, y36, z36⟩, st36⟩ := Jvm.LawKit.callS X17 hx (y := (⟨"com/example/opledger/opledger/Utf8", "encode", "(I[BI)I"⟩ : MethodName)) hown (mvT hZ (hw _ (List.mem_of_getElem? (i := 2) rfl))) (mvT hZ (hw _ (List.mem_of_getElem? (i := 3) rfl))) (mvT hZ (hw _ (List.mem_of_getElem? (i := 4) rfl))) (mvT hZ (hw _ (List.mem_of_getElem? (i := 5) rfl))) (by decide) (backOf (W := 0) (rmE3 l Z a0 hw [] cp ob1 ov fb wL kL h17 n0 z_17 o_x17 S_LEAD VL g_ob1 OB hl hu ho1 ho2) hZ (hw _ (List.mem_of_getElem? (i := 5) rfl)) (hw _ (List.mem_of_getElem? (i := 4) rfl)) (by decide) (by decide)) (g := (mkF m 173 #[.val (.int p1), .val (.int p2), .val (.int p3), .val (.int p4), .val (.int (p1 &&& (3 : Int32))), .val (.int (p2 &&& (2147483647 : Int32))), .val (.int cp), .val (.int (3 : Int32)), .val (.int ov), .val (.int fb), .val (.ref ob1), .unset, .unset, .unset, .unset, .unset, .unset, .unset] [(.int ov), (.ref ob1), (.int cp)])) rfl (by rw [hml]; rfl) (argsL := [(.int cp), (.ref ob1), (.int ov)]) (rest := []) (lenOf pd_0 rfl) rfl (by show 2 * 0 + _ ≤ _; exact Nat.le_of_eq rfl) (hb hby at_173) (fun _ _ => ⟨rfl, e17, (by decide : 1 + 0 ≤ _), (by decide : 8 + 0 ≤ _)⟩)
      dsimp only [Pt.U, Pt.locs, Pt.cells, Pt.slots] at X36 l36 y36 z36 st36 hQ36
      subst l36 y36 z36
      obtain ⟨f36, rfl, N36q, K36, B36, y036, y136, y236, hk36⟩ := hQ36
      have N36 := Fr.app N17 N36q
      refine hG _ _ (fun t₀ k₀ => st36 _ k₀) ?_
      have z_x36 := Nat.le_trans z_17 K36.1
      have o_x36 := o_x17.keep K36 (allS g_ob1 all0)
      show G (T36.setTop (mkF m 176 #[.val (.int p1), .val (.int p2), .val (.int p3), .val (.int p4), .val (.int (p1 &&& (3 : Int32))), .val (.int (p2 &&& (2147483647 : Int32))), .val (.int cp), .val (.int (3 : Int32)), .val (.int ov), .val (.int fb), .val (.ref ob1), .unset, .unset, .unset, .unset, .unset, .unset, .unset] [(.int (3 : Int32))]))
      refine hG _ (T36.setTop (mkF m 191 #[.val (.int p1), .val (.int p2), .val (.int p3), .val (.int p4), .val (.int (p1 &&& (3 : Int32))), .val (.int (p2 &&& (2147483647 : Int32))), .val (.int cp), .val (.int (3 : Int32)), .val (.int ov), .val (.int fb), .val (.ref ob1), .val (.int (3 : Int32)), .unset, .unset, .unset, .unset, .unset, .unset] [(.int ov), (.ref ob1)])) (fun t₀ k₀ => ?_) ?_
      · show Steps p.tables e below (T36.setTop (mkF m 176 #[.val (.int p1), .val (.int p2), .val (.int p3), .val (.int p4), .val (.int (p1 &&& (3 : Int32))), .val (.int (p2 &&& (2147483647 : Int32))), .val (.int cp), .val (.int (3 : Int32)), .val (.int ov), .val (.int fb), .val (.ref ob1), .unset, .unset, .unset, .unset, .unset, .unset, .unset] [(.int (3 : Int32))])) t₀
        refine XS.istore X36.here hx rfl (hb hby at_176) rfl (l' := #[.val (.int p1), .val (.int p2), .val (.int p3), .val (.int p4), .val (.int (p1 &&& (3 : Int32))), .val (.int (p2 &&& (2147483647 : Int32))), .val (.int cp), .val (.int (3 : Int32)), .val (.int ov), .val (.int fb), .val (.ref ob1), .val (.int (3 : Int32)), .unset, .unset, .unset, .unset, .unset, .unset]) rfl ?_
        show Steps p.tables e below (T36.setTop (mkF m 178 #[.val (.int p1), .val (.int p2), .val (.int p3), .val (.int p4), .val (.int (p1 &&& (3 : Int32))), .val (.int (p2 &&& (2147483647 : Int32))), .val (.int cp), .val (.int (3 : Int32)), .val (.int ov), .val (.int fb), .val (.ref ob1), .val (.int (3 : Int32)), .unset, .unset, .unset, .unset, .unset, .unset] [])) t₀
        refine XS.iload X36.here hx rfl (hb hby at_178) rfl ?_
        show Steps p.tables e below (T36.setTop (mkF m 180 #[.val (.int p1), .val (.int p2), .val (.int p3), .val (.int p4), .val (.int (p1 &&& (3 : Int32))), .val (.int (p2 &&& (2147483647 : Int32))), .val (.int cp), .val (.int (3 : Int32)), .val (.int ov), .val (.int fb), .val (.ref ob1), .val (.int (3 : Int32)), .unset, .unset, .unset, .unset, .unset, .unset] [(.int (3 : Int32))])) t₀
        refine XS.iload X36.here hx rfl (hb hby at_180) rfl ?_
        show Steps p.tables e below (T36.setTop (mkF m 182 #[.val (.int p1), .val (.int p2), .val (.int p3), .val (.int p4), .val (.int (p1 &&& (3 : Int32))), .val (.int (p2 &&& (2147483647 : Int32))), .val (.int cp), .val (.int (3 : Int32)), .val (.int ov), .val (.int fb), .val (.ref ob1), .val (.int (3 : Int32)), .unset, .unset, .unset, .unset, .unset, .unset] [(.int (3 : Int32)), (.int (3 : Int32))])) t₀
        refine XS.icmpYes X36.here hx rfl (pc0 := 182) (pc' := 187) rfl (hb hby at_182) rfl (teq (by decide : ((3 : Int32) = (3 : Int32)))).1 (by decide) (by decide) ?_
        show Steps p.tables e below (T36.setTop (mkF m 187 #[.val (.int p1), .val (.int p2), .val (.int p3), .val (.int p4), .val (.int (p1 &&& (3 : Int32))), .val (.int (p2 &&& (2147483647 : Int32))), .val (.int cp), .val (.int (3 : Int32)), .val (.int ov), .val (.int fb), .val (.ref ob1), .val (.int (3 : Int32)), .unset, .unset, .unset, .unset, .unset, .unset] [])) t₀
        refine XS.aload X36.here hx rfl (hb hby at_187) rfl rfl ?_
        show Steps p.tables e below (T36.setTop (mkF m 189 #[.val (.int p1), .val (.int p2), .val (.int p3), .val (.int p4), .val (.int (p1 &&& (3 : Int32))), .val (.int (p2 &&& (2147483647 : Int32))), .val (.int cp), .val (.int (3 : Int32)), .val (.int ov), .val (.int fb), .val (.ref ob1), .val (.int (3 : Int32)), .unset, .unset, .unset, .unset, .unset, .unset] [(.ref ob1)])) t₀
        refine XS.iload X36.here hx rfl (hb hby at_189) rfl ?_
        exact k₀
      have Bc37 := B36
      obtain ⟨cl37, Ar37, sz37, Hf37⟩ := Bc37
      have hin37 := own_inb (j := ov) sz37 (by omega) (by omega)
      have hat37 : cl37.slots[(ov).toNatClampNeg]? = some (.int (f36 (ov.toNatClampNeg))) := Hf37 _ (by have q := own_nat ho1; omega)
      refine hG _ (T36.setTop (mkF m 204 #[.val (.int p1), .val (.int p2), .val (.int p3), .val (.int p4), .val (.int (p1 &&& (3 : Int32))), .val (.int (p2 &&& (2147483647 : Int32))), .val (.int cp), .val (.int (3 : Int32)), .val (.int ov), .val (.int fb), .val (.ref ob1), .val (.int (3 : Int32)), .val (.int ((f36 (ov.toNatClampNeg)) &&& (255 : Int32))), .unset, .unset, .unset, .unset, .unset] [(.int (ov + (1 : Int32))), (.ref ob1)])) (fun t₀ k₀ => ?_) ?_
      · show Steps p.tables e below (T36.setTop (mkF m 191 #[.val (.int p1), .val (.int p2), .val (.int p3), .val (.int p4), .val (.int (p1 &&& (3 : Int32))), .val (.int (p2 &&& (2147483647 : Int32))), .val (.int cp), .val (.int (3 : Int32)), .val (.int ov), .val (.int fb), .val (.ref ob1), .val (.int (3 : Int32)), .unset, .unset, .unset, .unset, .unset, .unset] [(.int ov), (.ref ob1)])) t₀
        refine X36.baloadBytes hx (j := ov) (v := .int (f36 (ov.toNatClampNeg))) Ar37.1 (State.isArrayOf_alike hZ.alike Ar37.2.1) Ar37.2.2 hin37 hat37 (g := (mkF m 191 #[.val (.int p1), .val (.int p2), .val (.int p3), .val (.int p4), .val (.int (p1 &&& (3 : Int32))), .val (.int (p2 &&& (2147483647 : Int32))), .val (.int cp), .val (.int (3 : Int32)), .val (.int ov), .val (.int fb), .val (.ref ob1), .val (.int (3 : Int32)), .unset, .unset, .unset, .unset, .unset, .unset] [(.int ov), (.ref ob1)])) rfl rfl (hb hby at_191) _ ?_
        show Steps p.tables e below (T36.setTop (mkF m 192 #[.val (.int p1), .val (.int p2), .val (.int p3), .val (.int p4), .val (.int (p1 &&& (3 : Int32))), .val (.int (p2 &&& (2147483647 : Int32))), .val (.int cp), .val (.int (3 : Int32)), .val (.int ov), .val (.int fb), .val (.ref ob1), .val (.int (3 : Int32)), .unset, .unset, .unset, .unset, .unset, .unset] [(.int (f36 (ov.toNatClampNeg)))])) t₀
        refine XS.sipush X36.here hx rfl (hb hby at_192) ?_
        show Steps p.tables e below (T36.setTop (mkF m 195 #[.val (.int p1), .val (.int p2), .val (.int p3), .val (.int p4), .val (.int (p1 &&& (3 : Int32))), .val (.int (p2 &&& (2147483647 : Int32))), .val (.int cp), .val (.int (3 : Int32)), .val (.int ov), .val (.int fb), .val (.ref ob1), .val (.int (3 : Int32)), .unset, .unset, .unset, .unset, .unset, .unset] [(.int (255 : Int32)), (.int (f36 (ov.toNatClampNeg)))])) t₀
        refine XS.iand X36.here hx rfl (hb hby at_195) rfl ?_
        show Steps p.tables e below (T36.setTop (mkF m 196 #[.val (.int p1), .val (.int p2), .val (.int p3), .val (.int p4), .val (.int (p1 &&& (3 : Int32))), .val (.int (p2 &&& (2147483647 : Int32))), .val (.int cp), .val (.int (3 : Int32)), .val (.int ov), .val (.int fb), .val (.ref ob1), .val (.int (3 : Int32)), .unset, .unset, .unset, .unset, .unset, .unset] [(.int ((f36 (ov.toNatClampNeg)) &&& (255 : Int32)))])) t₀
        refine XS.istore X36.here hx rfl (hb hby at_196) rfl (l' := #[.val (.int p1), .val (.int p2), .val (.int p3), .val (.int p4), .val (.int (p1 &&& (3 : Int32))), .val (.int (p2 &&& (2147483647 : Int32))), .val (.int cp), .val (.int (3 : Int32)), .val (.int ov), .val (.int fb), .val (.ref ob1), .val (.int (3 : Int32)), .val (.int ((f36 (ov.toNatClampNeg)) &&& (255 : Int32))), .unset, .unset, .unset, .unset, .unset]) rfl ?_
        show Steps p.tables e below (T36.setTop (mkF m 198 #[.val (.int p1), .val (.int p2), .val (.int p3), .val (.int p4), .val (.int (p1 &&& (3 : Int32))), .val (.int (p2 &&& (2147483647 : Int32))), .val (.int cp), .val (.int (3 : Int32)), .val (.int ov), .val (.int fb), .val (.ref ob1), .val (.int (3 : Int32)), .val (.int ((f36 (ov.toNatClampNeg)) &&& (255 : Int32))), .unset, .unset, .unset, .unset, .unset] [])) t₀
        refine XS.aload X36.here hx rfl (hb hby at_198) rfl rfl ?_
        show Steps p.tables e below (T36.setTop (mkF m 200 #[.val (.int p1), .val (.int p2), .val (.int p3), .val (.int p4), .val (.int (p1 &&& (3 : Int32))), .val (.int (p2 &&& (2147483647 : Int32))), .val (.int cp), .val (.int (3 : Int32)), .val (.int ov), .val (.int fb), .val (.ref ob1), .val (.int (3 : Int32)), .val (.int ((f36 (ov.toNatClampNeg)) &&& (255 : Int32))), .unset, .unset, .unset, .unset, .unset] [(.ref ob1)])) t₀
        refine XS.iload X36.here hx rfl (hb hby at_200) rfl ?_
        show Steps p.tables e below (T36.setTop (mkF m 202 #[.val (.int p1), .val (.int p2), .val (.int p3), .val (.int p4), .val (.int (p1 &&& (3 : Int32))), .val (.int (p2 &&& (2147483647 : Int32))), .val (.int cp), .val (.int (3 : Int32)), .val (.int ov), .val (.int fb), .val (.ref ob1), .val (.int (3 : Int32)), .val (.int ((f36 (ov.toNatClampNeg)) &&& (255 : Int32))), .unset, .unset, .unset, .unset, .unset] [(.int ov), (.ref ob1)])) t₀
        refine XS.iconst X36.here hx rfl (hb hby at_202) ?_
        show Steps p.tables e below (T36.setTop (mkF m 203 #[.val (.int p1), .val (.int p2), .val (.int p3), .val (.int p4), .val (.int (p1 &&& (3 : Int32))), .val (.int (p2 &&& (2147483647 : Int32))), .val (.int cp), .val (.int (3 : Int32)), .val (.int ov), .val (.int fb), .val (.ref ob1), .val (.int (3 : Int32)), .val (.int ((f36 (ov.toNatClampNeg)) &&& (255 : Int32))), .unset, .unset, .unset, .unset, .unset] [(.int (1 : Int32)), (.int ov), (.ref ob1)])) t₀
        refine XS.iadd X36.here hx rfl (hb hby at_203) rfl ?_
        exact k₀
      have Bc38 := B36
      obtain ⟨cl38, Ar38, sz38, Hf38⟩ := Bc38
      have ix1 := own_ix (ov := ov) (1 : Int32) 1 rfl (by decide) ho1 ho2
      have hin38 := own_inb (j := (ov + (1 : Int32))) sz38 (by omega) (by omega)
      have hat38 : cl38.slots[((ov + (1 : Int32))).toNatClampNeg]? = some (.int (f36 (ov.toNatClampNeg + 1))) := by rw [ix1.1]; exact Hf38 _ (by have q := own_nat ho1; omega)
      refine hG _ (T36.setTop (mkF m 217 #[.val (.int p1), .val (.int p2), .val (.int p3), .val (.int p4), .val (.int (p1 &&& (3 : Int32))), .val (.int (p2 &&& (2147483647 : Int32))), .val (.int cp), .val (.int (3 : Int32)), .val (.int ov), .val (.int fb), .val (.ref ob1), .val (.int (3 : Int32)), .val (.int ((f36 (ov.toNatClampNeg)) &&& (255 : Int32))), .val (.int ((f36 (ov.toNatClampNeg + 1)) &&& (255 : Int32))), .unset, .unset, .unset, .unset] [(.int (ov + (2 : Int32))), (.ref ob1)])) (fun t₀ k₀ => ?_) ?_
      · show Steps p.tables e below (T36.setTop (mkF m 204 #[.val (.int p1), .val (.int p2), .val (.int p3), .val (.int p4), .val (.int (p1 &&& (3 : Int32))), .val (.int (p2 &&& (2147483647 : Int32))), .val (.int cp), .val (.int (3 : Int32)), .val (.int ov), .val (.int fb), .val (.ref ob1), .val (.int (3 : Int32)), .val (.int ((f36 (ov.toNatClampNeg)) &&& (255 : Int32))), .unset, .unset, .unset, .unset, .unset] [(.int (ov + (1 : Int32))), (.ref ob1)])) t₀
        refine X36.baloadBytes hx (j := (ov + (1 : Int32))) (v := .int (f36 (ov.toNatClampNeg + 1))) Ar38.1 (State.isArrayOf_alike hZ.alike Ar38.2.1) Ar38.2.2 hin38 hat38 (g := (mkF m 204 #[.val (.int p1), .val (.int p2), .val (.int p3), .val (.int p4), .val (.int (p1 &&& (3 : Int32))), .val (.int (p2 &&& (2147483647 : Int32))), .val (.int cp), .val (.int (3 : Int32)), .val (.int ov), .val (.int fb), .val (.ref ob1), .val (.int (3 : Int32)), .val (.int ((f36 (ov.toNatClampNeg)) &&& (255 : Int32))), .unset, .unset, .unset, .unset, .unset] [(.int (ov + (1 : Int32))), (.ref ob1)])) rfl rfl (hb hby at_204) _ ?_
        show Steps p.tables e below (T36.setTop (mkF m 205 #[.val (.int p1), .val (.int p2), .val (.int p3), .val (.int p4), .val (.int (p1 &&& (3 : Int32))), .val (.int (p2 &&& (2147483647 : Int32))), .val (.int cp), .val (.int (3 : Int32)), .val (.int ov), .val (.int fb), .val (.ref ob1), .val (.int (3 : Int32)), .val (.int ((f36 (ov.toNatClampNeg)) &&& (255 : Int32))), .unset, .unset, .unset, .unset, .unset] [(.int (f36 (ov.toNatClampNeg + 1)))])) t₀
        refine XS.sipush X36.here hx rfl (hb hby at_205) ?_
        show Steps p.tables e below (T36.setTop (mkF m 208 #[.val (.int p1), .val (.int p2), .val (.int p3), .val (.int p4), .val (.int (p1 &&& (3 : Int32))), .val (.int (p2 &&& (2147483647 : Int32))), .val (.int cp), .val (.int (3 : Int32)), .val (.int ov), .val (.int fb), .val (.ref ob1), .val (.int (3 : Int32)), .val (.int ((f36 (ov.toNatClampNeg)) &&& (255 : Int32))), .unset, .unset, .unset, .unset, .unset] [(.int (255 : Int32)), (.int (f36 (ov.toNatClampNeg + 1)))])) t₀
        refine XS.iand X36.here hx rfl (hb hby at_208) rfl ?_
        show Steps p.tables e below (T36.setTop (mkF m 209 #[.val (.int p1), .val (.int p2), .val (.int p3), .val (.int p4), .val (.int (p1 &&& (3 : Int32))), .val (.int (p2 &&& (2147483647 : Int32))), .val (.int cp), .val (.int (3 : Int32)), .val (.int ov), .val (.int fb), .val (.ref ob1), .val (.int (3 : Int32)), .val (.int ((f36 (ov.toNatClampNeg)) &&& (255 : Int32))), .unset, .unset, .unset, .unset, .unset] [(.int ((f36 (ov.toNatClampNeg + 1)) &&& (255 : Int32)))])) t₀
        refine XS.istore X36.here hx rfl (hb hby at_209) rfl (l' := #[.val (.int p1), .val (.int p2), .val (.int p3), .val (.int p4), .val (.int (p1 &&& (3 : Int32))), .val (.int (p2 &&& (2147483647 : Int32))), .val (.int cp), .val (.int (3 : Int32)), .val (.int ov), .val (.int fb), .val (.ref ob1), .val (.int (3 : Int32)), .val (.int ((f36 (ov.toNatClampNeg)) &&& (255 : Int32))), .val (.int ((f36 (ov.toNatClampNeg + 1)) &&& (255 : Int32))), .unset, .unset, .unset, .unset]) rfl ?_
        show Steps p.tables e below (T36.setTop (mkF m 211 #[.val (.int p1), .val (.int p2), .val (.int p3), .val (.int p4), .val (.int (p1 &&& (3 : Int32))), .val (.int (p2 &&& (2147483647 : Int32))), .val (.int cp), .val (.int (3 : Int32)), .val (.int ov), .val (.int fb), .val (.ref ob1), .val (.int (3 : Int32)), .val (.int ((f36 (ov.toNatClampNeg)) &&& (255 : Int32))), .val (.int ((f36 (ov.toNatClampNeg + 1)) &&& (255 : Int32))), .unset, .unset, .unset, .unset] [])) t₀
        refine XS.aload X36.here hx rfl (hb hby at_211) rfl rfl ?_
        show Steps p.tables e below (T36.setTop (mkF m 213 #[.val (.int p1), .val (.int p2), .val (.int p3), .val (.int p4), .val (.int (p1 &&& (3 : Int32))), .val (.int (p2 &&& (2147483647 : Int32))), .val (.int cp), .val (.int (3 : Int32)), .val (.int ov), .val (.int fb), .val (.ref ob1), .val (.int (3 : Int32)), .val (.int ((f36 (ov.toNatClampNeg)) &&& (255 : Int32))), .val (.int ((f36 (ov.toNatClampNeg + 1)) &&& (255 : Int32))), .unset, .unset, .unset, .unset] [(.ref ob1)])) t₀
        refine XS.iload X36.here hx rfl (hb hby at_213) rfl ?_
        show Steps p.tables e below (T36.setTop (mkF m 215 #[.val (.int p1), .val (.int p2), .val (.int p3), .val (.int p4), .val (.int (p1 &&& (3 : Int32))), .val (.int (p2 &&& (2147483647 : Int32))), .val (.int cp), .val (.int (3 : Int32)), .val (.int ov), .val (.int fb), .val (.ref ob1), .val (.int (3 : Int32)), .val (.int ((f36 (ov.toNatClampNeg)) &&& (255 : Int32))), .val (.int ((f36 (ov.toNatClampNeg + 1)) &&& (255 : Int32))), .unset, .unset, .unset, .unset] [(.int ov), (.ref ob1)])) t₀
        refine XS.iconst X36.here hx rfl (hb hby at_215) ?_
        show Steps p.tables e below (T36.setTop (mkF m 216 #[.val (.int p1), .val (.int p2), .val (.int p3), .val (.int p4), .val (.int (p1 &&& (3 : Int32))), .val (.int (p2 &&& (2147483647 : Int32))), .val (.int cp), .val (.int (3 : Int32)), .val (.int ov), .val (.int fb), .val (.ref ob1), .val (.int (3 : Int32)), .val (.int ((f36 (ov.toNatClampNeg)) &&& (255 : Int32))), .val (.int ((f36 (ov.toNatClampNeg + 1)) &&& (255 : Int32))), .unset, .unset, .unset, .unset] [(.int (2 : Int32)), (.int ov), (.ref ob1)])) t₀
        refine XS.iadd X36.here hx rfl (hb hby at_216) rfl ?_
        exact k₀
      have Bc39 := B36
      obtain ⟨cl39, Ar39, sz39, Hf39⟩ := Bc39
      have ix2 := own_ix (ov := ov) (2 : Int32) 2 rfl (by decide) ho1 ho2
      have hin39 := own_inb (j := (ov + (2 : Int32))) sz39 (by omega) (by omega)
      have hat39 : cl39.slots[((ov + (2 : Int32))).toNatClampNeg]? = some (.int (f36 (ov.toNatClampNeg + 2))) := by rw [ix2.1]; exact Hf39 _ (by have q := own_nat ho1; omega)
      refine hG _ (T36.setTop (mkF m 230 #[.val (.int p1), .val (.int p2), .val (.int p3), .val (.int p4), .val (.int (p1 &&& (3 : Int32))), .val (.int (p2 &&& (2147483647 : Int32))), .val (.int cp), .val (.int (3 : Int32)), .val (.int ov), .val (.int fb), .val (.ref ob1), .val (.int (3 : Int32)), .val (.int ((f36 (ov.toNatClampNeg)) &&& (255 : Int32))), .val (.int ((f36 (ov.toNatClampNeg + 1)) &&& (255 : Int32))), .val (.int ((f36 (ov.toNatClampNeg + 2)) &&& (255 : Int32))), .unset, .unset, .unset] [(.int (ov + (3 : Int32))), (.ref ob1)])) (fun t₀ k₀ => ?_) ?_
      · show Steps p.tables e below (T36.setTop (mkF m 217 #[.val (.int p1), .val (.int p2), .val (.int p3), .val (.int p4), .val (.int (p1 &&& (3 : Int32))), .val (.int (p2 &&& (2147483647 : Int32))), .val (.int cp), .val (.int (3 : Int32)), .val (.int ov), .val (.int fb), .val (.ref ob1), .val (.int (3 : Int32)), .val (.int ((f36 (ov.toNatClampNeg)) &&& (255 : Int32))), .val (.int ((f36 (ov.toNatClampNeg + 1)) &&& (255 : Int32))), .unset, .unset, .unset, .unset] [(.int (ov + (2 : Int32))), (.ref ob1)])) t₀
        refine X36.baloadBytes hx (j := (ov + (2 : Int32))) (v := .int (f36 (ov.toNatClampNeg + 2))) Ar39.1 (State.isArrayOf_alike hZ.alike Ar39.2.1) Ar39.2.2 hin39 hat39 (g := (mkF m 217 #[.val (.int p1), .val (.int p2), .val (.int p3), .val (.int p4), .val (.int (p1 &&& (3 : Int32))), .val (.int (p2 &&& (2147483647 : Int32))), .val (.int cp), .val (.int (3 : Int32)), .val (.int ov), .val (.int fb), .val (.ref ob1), .val (.int (3 : Int32)), .val (.int ((f36 (ov.toNatClampNeg)) &&& (255 : Int32))), .val (.int ((f36 (ov.toNatClampNeg + 1)) &&& (255 : Int32))), .unset, .unset, .unset, .unset] [(.int (ov + (2 : Int32))), (.ref ob1)])) rfl rfl (hb hby at_217) _ ?_
        show Steps p.tables e below (T36.setTop (mkF m 218 #[.val (.int p1), .val (.int p2), .val (.int p3), .val (.int p4), .val (.int (p1 &&& (3 : Int32))), .val (.int (p2 &&& (2147483647 : Int32))), .val (.int cp), .val (.int (3 : Int32)), .val (.int ov), .val (.int fb), .val (.ref ob1), .val (.int (3 : Int32)), .val (.int ((f36 (ov.toNatClampNeg)) &&& (255 : Int32))), .val (.int ((f36 (ov.toNatClampNeg + 1)) &&& (255 : Int32))), .unset, .unset, .unset, .unset] [(.int (f36 (ov.toNatClampNeg + 2)))])) t₀
        refine XS.sipush X36.here hx rfl (hb hby at_218) ?_
        show Steps p.tables e below (T36.setTop (mkF m 221 #[.val (.int p1), .val (.int p2), .val (.int p3), .val (.int p4), .val (.int (p1 &&& (3 : Int32))), .val (.int (p2 &&& (2147483647 : Int32))), .val (.int cp), .val (.int (3 : Int32)), .val (.int ov), .val (.int fb), .val (.ref ob1), .val (.int (3 : Int32)), .val (.int ((f36 (ov.toNatClampNeg)) &&& (255 : Int32))), .val (.int ((f36 (ov.toNatClampNeg + 1)) &&& (255 : Int32))), .unset, .unset, .unset, .unset] [(.int (255 : Int32)), (.int (f36 (ov.toNatClampNeg + 2)))])) t₀
        refine XS.iand X36.here hx rfl (hb hby at_221) rfl ?_
        show Steps p.tables e below (T36.setTop (mkF m 222 #[.val (.int p1), .val (.int p2), .val (.int p3), .val (.int p4), .val (.int (p1 &&& (3 : Int32))), .val (.int (p2 &&& (2147483647 : Int32))), .val (.int cp), .val (.int (3 : Int32)), .val (.int ov), .val (.int fb), .val (.ref ob1), .val (.int (3 : Int32)), .val (.int ((f36 (ov.toNatClampNeg)) &&& (255 : Int32))), .val (.int ((f36 (ov.toNatClampNeg + 1)) &&& (255 : Int32))), .unset, .unset, .unset, .unset] [(.int ((f36 (ov.toNatClampNeg + 2)) &&& (255 : Int32)))])) t₀
        refine XS.istore X36.here hx rfl (hb hby at_222) rfl (l' := #[.val (.int p1), .val (.int p2), .val (.int p3), .val (.int p4), .val (.int (p1 &&& (3 : Int32))), .val (.int (p2 &&& (2147483647 : Int32))), .val (.int cp), .val (.int (3 : Int32)), .val (.int ov), .val (.int fb), .val (.ref ob1), .val (.int (3 : Int32)), .val (.int ((f36 (ov.toNatClampNeg)) &&& (255 : Int32))), .val (.int ((f36 (ov.toNatClampNeg + 1)) &&& (255 : Int32))), .val (.int ((f36 (ov.toNatClampNeg + 2)) &&& (255 : Int32))), .unset, .unset, .unset]) rfl ?_
        show Steps p.tables e below (T36.setTop (mkF m 224 #[.val (.int p1), .val (.int p2), .val (.int p3), .val (.int p4), .val (.int (p1 &&& (3 : Int32))), .val (.int (p2 &&& (2147483647 : Int32))), .val (.int cp), .val (.int (3 : Int32)), .val (.int ov), .val (.int fb), .val (.ref ob1), .val (.int (3 : Int32)), .val (.int ((f36 (ov.toNatClampNeg)) &&& (255 : Int32))), .val (.int ((f36 (ov.toNatClampNeg + 1)) &&& (255 : Int32))), .val (.int ((f36 (ov.toNatClampNeg + 2)) &&& (255 : Int32))), .unset, .unset, .unset] [])) t₀
        refine XS.aload X36.here hx rfl (hb hby at_224) rfl rfl ?_
        show Steps p.tables e below (T36.setTop (mkF m 226 #[.val (.int p1), .val (.int p2), .val (.int p3), .val (.int p4), .val (.int (p1 &&& (3 : Int32))), .val (.int (p2 &&& (2147483647 : Int32))), .val (.int cp), .val (.int (3 : Int32)), .val (.int ov), .val (.int fb), .val (.ref ob1), .val (.int (3 : Int32)), .val (.int ((f36 (ov.toNatClampNeg)) &&& (255 : Int32))), .val (.int ((f36 (ov.toNatClampNeg + 1)) &&& (255 : Int32))), .val (.int ((f36 (ov.toNatClampNeg + 2)) &&& (255 : Int32))), .unset, .unset, .unset] [(.ref ob1)])) t₀
        refine XS.iload X36.here hx rfl (hb hby at_226) rfl ?_
        show Steps p.tables e below (T36.setTop (mkF m 228 #[.val (.int p1), .val (.int p2), .val (.int p3), .val (.int p4), .val (.int (p1 &&& (3 : Int32))), .val (.int (p2 &&& (2147483647 : Int32))), .val (.int cp), .val (.int (3 : Int32)), .val (.int ov), .val (.int fb), .val (.ref ob1), .val (.int (3 : Int32)), .val (.int ((f36 (ov.toNatClampNeg)) &&& (255 : Int32))), .val (.int ((f36 (ov.toNatClampNeg + 1)) &&& (255 : Int32))), .val (.int ((f36 (ov.toNatClampNeg + 2)) &&& (255 : Int32))), .unset, .unset, .unset] [(.int ov), (.ref ob1)])) t₀
        refine XS.iconst X36.here hx rfl (hb hby at_228) ?_
        show Steps p.tables e below (T36.setTop (mkF m 229 #[.val (.int p1), .val (.int p2), .val (.int p3), .val (.int p4), .val (.int (p1 &&& (3 : Int32))), .val (.int (p2 &&& (2147483647 : Int32))), .val (.int cp), .val (.int (3 : Int32)), .val (.int ov), .val (.int fb), .val (.ref ob1), .val (.int (3 : Int32)), .val (.int ((f36 (ov.toNatClampNeg)) &&& (255 : Int32))), .val (.int ((f36 (ov.toNatClampNeg + 1)) &&& (255 : Int32))), .val (.int ((f36 (ov.toNatClampNeg + 2)) &&& (255 : Int32))), .unset, .unset, .unset] [(.int (3 : Int32)), (.int ov), (.ref ob1)])) t₀
        refine XS.iadd X36.here hx rfl (hb hby at_229) rfl ?_
        exact k₀
      have Bc40 := B36
      obtain ⟨cl40, Ar40, sz40, Hf40⟩ := Bc40
      have ix3 := own_ix (ov := ov) (3 : Int32) 3 rfl (by decide) ho1 ho2
      have hin40 := own_inb (j := (ov + (3 : Int32))) sz40 (by omega) (by omega)
      have hat40 : cl40.slots[((ov + (3 : Int32))).toNatClampNeg]? = some (.int (f36 (ov.toNatClampNeg + 3))) := by rw [ix3.1]; exact Hf40 _ (by have q := own_nat ho1; omega)
      refine hG _ (T36.setTop (mkF m 237 #[.val (.int p1), .val (.int p2), .val (.int p3), .val (.int p4), .val (.int (p1 &&& (3 : Int32))), .val (.int (p2 &&& (2147483647 : Int32))), .val (.int cp), .val (.int (3 : Int32)), .val (.int ov), .val (.int fb), .val (.ref ob1), .val (.int (3 : Int32)), .val (.int ((f36 (ov.toNatClampNeg)) &&& (255 : Int32))), .val (.int ((f36 (ov.toNatClampNeg + 1)) &&& (255 : Int32))), .val (.int ((f36 (ov.toNatClampNeg + 2)) &&& (255 : Int32))), .val (.int ((f36 (ov.toNatClampNeg + 3)) &&& (255 : Int32))), .unset, .unset] [])) (fun t₀ k₀ => ?_) ?_
      · show Steps p.tables e below (T36.setTop (mkF m 230 #[.val (.int p1), .val (.int p2), .val (.int p3), .val (.int p4), .val (.int (p1 &&& (3 : Int32))), .val (.int (p2 &&& (2147483647 : Int32))), .val (.int cp), .val (.int (3 : Int32)), .val (.int ov), .val (.int fb), .val (.ref ob1), .val (.int (3 : Int32)), .val (.int ((f36 (ov.toNatClampNeg)) &&& (255 : Int32))), .val (.int ((f36 (ov.toNatClampNeg + 1)) &&& (255 : Int32))), .val (.int ((f36 (ov.toNatClampNeg + 2)) &&& (255 : Int32))), .unset, .unset, .unset] [(.int (ov + (3 : Int32))), (.ref ob1)])) t₀
        refine X36.baloadBytes hx (j := (ov + (3 : Int32))) (v := .int (f36 (ov.toNatClampNeg + 3))) Ar40.1 (State.isArrayOf_alike hZ.alike Ar40.2.1) Ar40.2.2 hin40 hat40 (g := (mkF m 230 #[.val (.int p1), .val (.int p2), .val (.int p3), .val (.int p4), .val (.int (p1 &&& (3 : Int32))), .val (.int (p2 &&& (2147483647 : Int32))), .val (.int cp), .val (.int (3 : Int32)), .val (.int ov), .val (.int fb), .val (.ref ob1), .val (.int (3 : Int32)), .val (.int ((f36 (ov.toNatClampNeg)) &&& (255 : Int32))), .val (.int ((f36 (ov.toNatClampNeg + 1)) &&& (255 : Int32))), .val (.int ((f36 (ov.toNatClampNeg + 2)) &&& (255 : Int32))), .unset, .unset, .unset] [(.int (ov + (3 : Int32))), (.ref ob1)])) rfl rfl (hb hby at_230) _ ?_
        show Steps p.tables e below (T36.setTop (mkF m 231 #[.val (.int p1), .val (.int p2), .val (.int p3), .val (.int p4), .val (.int (p1 &&& (3 : Int32))), .val (.int (p2 &&& (2147483647 : Int32))), .val (.int cp), .val (.int (3 : Int32)), .val (.int ov), .val (.int fb), .val (.ref ob1), .val (.int (3 : Int32)), .val (.int ((f36 (ov.toNatClampNeg)) &&& (255 : Int32))), .val (.int ((f36 (ov.toNatClampNeg + 1)) &&& (255 : Int32))), .val (.int ((f36 (ov.toNatClampNeg + 2)) &&& (255 : Int32))), .unset, .unset, .unset] [(.int (f36 (ov.toNatClampNeg + 3)))])) t₀
        refine XS.sipush X36.here hx rfl (hb hby at_231) ?_
        show Steps p.tables e below (T36.setTop (mkF m 234 #[.val (.int p1), .val (.int p2), .val (.int p3), .val (.int p4), .val (.int (p1 &&& (3 : Int32))), .val (.int (p2 &&& (2147483647 : Int32))), .val (.int cp), .val (.int (3 : Int32)), .val (.int ov), .val (.int fb), .val (.ref ob1), .val (.int (3 : Int32)), .val (.int ((f36 (ov.toNatClampNeg)) &&& (255 : Int32))), .val (.int ((f36 (ov.toNatClampNeg + 1)) &&& (255 : Int32))), .val (.int ((f36 (ov.toNatClampNeg + 2)) &&& (255 : Int32))), .unset, .unset, .unset] [(.int (255 : Int32)), (.int (f36 (ov.toNatClampNeg + 3)))])) t₀
        refine XS.iand X36.here hx rfl (hb hby at_234) rfl ?_
        show Steps p.tables e below (T36.setTop (mkF m 235 #[.val (.int p1), .val (.int p2), .val (.int p3), .val (.int p4), .val (.int (p1 &&& (3 : Int32))), .val (.int (p2 &&& (2147483647 : Int32))), .val (.int cp), .val (.int (3 : Int32)), .val (.int ov), .val (.int fb), .val (.ref ob1), .val (.int (3 : Int32)), .val (.int ((f36 (ov.toNatClampNeg)) &&& (255 : Int32))), .val (.int ((f36 (ov.toNatClampNeg + 1)) &&& (255 : Int32))), .val (.int ((f36 (ov.toNatClampNeg + 2)) &&& (255 : Int32))), .unset, .unset, .unset] [(.int ((f36 (ov.toNatClampNeg + 3)) &&& (255 : Int32)))])) t₀
        refine XS.istore X36.here hx rfl (hb hby at_235) rfl (l' := #[.val (.int p1), .val (.int p2), .val (.int p3), .val (.int p4), .val (.int (p1 &&& (3 : Int32))), .val (.int (p2 &&& (2147483647 : Int32))), .val (.int cp), .val (.int (3 : Int32)), .val (.int ov), .val (.int fb), .val (.ref ob1), .val (.int (3 : Int32)), .val (.int ((f36 (ov.toNatClampNeg)) &&& (255 : Int32))), .val (.int ((f36 (ov.toNatClampNeg + 1)) &&& (255 : Int32))), .val (.int ((f36 (ov.toNatClampNeg + 2)) &&& (255 : Int32))), .val (.int ((f36 (ov.toNatClampNeg + 3)) &&& (255 : Int32))), .unset, .unset]) rfl ?_
        exact k₀
      obtain ⟨b0, hb0⟩ : ∃ z, z = ((f36 (ov.toNatClampNeg)) &&& (255 : Int32)) := ⟨_, rfl⟩
      rw [← hb0]
      show G (T36.setTop (mkF m 237 #[.val (.int p1), .val (.int p2), .val (.int p3), .val (.int p4), .val (.int (p1 &&& (3 : Int32))), .val (.int (p2 &&& (2147483647 : Int32))), .val (.int cp), .val (.int (3 : Int32)), .val (.int ov), .val (.int fb), .val (.ref ob1), .val (.int (3 : Int32)), .val (.int b0), .val (.int ((f36 (ov.toNatClampNeg + 1)) &&& (255 : Int32))), .val (.int ((f36 (ov.toNatClampNeg + 2)) &&& (255 : Int32))), .val (.int ((f36 (ov.toNatClampNeg + 3)) &&& (255 : Int32))), .unset, .unset] []))
      obtain ⟨c1, hc1⟩ : ∃ z, z = ((f36 (ov.toNatClampNeg + 1)) &&& (255 : Int32)) := ⟨_, rfl⟩
      rw [← hc1]
      show G (T36.setTop (mkF m 237 #[.val (.int p1), .val (.int p2), .val (.int p3), .val (.int p4), .val (.int (p1 &&& (3 : Int32))), .val (.int (p2 &&& (2147483647 : Int32))), .val (.int cp), .val (.int (3 : Int32)), .val (.int ov), .val (.int fb), .val (.ref ob1), .val (.int (3 : Int32)), .val (.int b0), .val (.int c1), .val (.int ((f36 (ov.toNatClampNeg + 2)) &&& (255 : Int32))), .val (.int ((f36 (ov.toNatClampNeg + 3)) &&& (255 : Int32))), .unset, .unset] []))
      obtain ⟨c2, hc2⟩ : ∃ z, z = ((f36 (ov.toNatClampNeg + 2)) &&& (255 : Int32)) := ⟨_, rfl⟩
      rw [← hc2]
      show G (T36.setTop (mkF m 237 #[.val (.int p1), .val (.int p2), .val (.int p3), .val (.int p4), .val (.int (p1 &&& (3 : Int32))), .val (.int (p2 &&& (2147483647 : Int32))), .val (.int cp), .val (.int (3 : Int32)), .val (.int ov), .val (.int fb), .val (.ref ob1), .val (.int (3 : Int32)), .val (.int b0), .val (.int c1), .val (.int c2), .val (.int ((f36 (ov.toNatClampNeg + 3)) &&& (255 : Int32))), .unset, .unset] []))
      obtain ⟨c3, hc3⟩ : ∃ z, z = ((f36 (ov.toNatClampNeg + 3)) &&& (255 : Int32)) := ⟨_, rfl⟩
      rw [← hc3]
      show G (T36.setTop (mkF m 237 #[.val (.int p1), .val (.int p2), .val (.int p3), .val (.int p4), .val (.int (p1 &&& (3 : Int32))), .val (.int (p2 &&& (2147483647 : Int32))), .val (.int cp), .val (.int (3 : Int32)), .val (.int ov), .val (.int fb), .val (.ref ob1), .val (.int (3 : Int32)), .val (.int b0), .val (.int c1), .val (.int c2), .val (.int c3), .unset, .unset] []))
      rw [y036] at hb0
      have v0 : b0.toInt = 224 + cp.toInt / 4096 := own_byte (own_lead (224 : Int32) cp (12 : Int32) 12 rfl 4 (by decide) 224 rfl (by decide) (by decide) (by omega) (by omega) (by decide)) (by omega) (by omega) hb0
      rw [y136] at hc1
      have v1 : c1.toInt = 128 + cp.toInt / 64 % 64 := own_byte (own_cont cp (6 : Int32) 6 rfl) (by omega) (by omega) hc1
      rw [y236] at hc2
      have v2 : c2.toInt = 128 + cp.toInt / 1 % 64 := own_byte (own_cont cp (0 : Int32) 0 rfl) (by omega) (by omega) hc2
      refine hG _ (T36.setTop (mkF m 501 #[.val (.int p1), .val (.int p2), .val (.int p3), .val (.int p4), .val (.int (p1 &&& (3 : Int32))), .val (.int (p2 &&& (2147483647 : Int32))), .val (.int cp), .val (.int (3 : Int32)), .val (.int ov), .val (.int fb), .val (.ref ob1), .val (.int (3 : Int32)), .val (.int b0), .val (.int c1), .val (.int c2), .val (.int c3), .val (.int (1 : Int32)), .val (.int ((((b0 &&& (15 : Int32)) <<< ((12 : Int32) &&& 31)) ||| ((c1 &&& (63 : Int32)) <<< ((6 : Int32) &&& 31))) ||| (c2 &&& (63 : Int32))))] [])) (fun t₀ k₀ => ?_) ?_
      · show Steps p.tables e below (T36.setTop (mkF m 237 #[.val (.int p1), .val (.int p2), .val (.int p3), .val (.int p4), .val (.int (p1 &&& (3 : Int32))), .val (.int (p2 &&& (2147483647 : Int32))), .val (.int cp), .val (.int (3 : Int32)), .val (.int ov), .val (.int fb), .val (.ref ob1), .val (.int (3 : Int32)), .val (.int b0), .val (.int c1), .val (.int c2), .val (.int c3), .unset, .unset] [])) t₀
        refine XS.iload X36.here hx rfl (hb hby at_237) rfl ?_
        show Steps p.tables e below (T36.setTop (mkF m 239 #[.val (.int p1), .val (.int p2), .val (.int p3), .val (.int p4), .val (.int (p1 &&& (3 : Int32))), .val (.int (p2 &&& (2147483647 : Int32))), .val (.int cp), .val (.int (3 : Int32)), .val (.int ov), .val (.int fb), .val (.ref ob1), .val (.int (3 : Int32)), .val (.int b0), .val (.int c1), .val (.int c2), .val (.int c3), .unset, .unset] [(.int (3 : Int32))])) t₀
        refine XS.iconst X36.here hx rfl (hb hby at_239) ?_
        show Steps p.tables e below (T36.setTop (mkF m 240 #[.val (.int p1), .val (.int p2), .val (.int p3), .val (.int p4), .val (.int (p1 &&& (3 : Int32))), .val (.int (p2 &&& (2147483647 : Int32))), .val (.int cp), .val (.int (3 : Int32)), .val (.int ov), .val (.int fb), .val (.ref ob1), .val (.int (3 : Int32)), .val (.int b0), .val (.int c1), .val (.int c2), .val (.int c3), .unset, .unset] [(.int (1 : Int32)), (.int (3 : Int32))])) t₀
        refine XS.icmpYes X36.here hx rfl (pc0 := 240) (pc' := 265) rfl (hb hby at_240) rfl (feq (by decide : ¬ ((3 : Int32) = (1 : Int32)))).2 (by decide) (by decide) ?_
        show Steps p.tables e below (T36.setTop (mkF m 265 #[.val (.int p1), .val (.int p2), .val (.int p3), .val (.int p4), .val (.int (p1 &&& (3 : Int32))), .val (.int (p2 &&& (2147483647 : Int32))), .val (.int cp), .val (.int (3 : Int32)), .val (.int ov), .val (.int fb), .val (.ref ob1), .val (.int (3 : Int32)), .val (.int b0), .val (.int c1), .val (.int c2), .val (.int c3), .unset, .unset] [])) t₀
        refine XS.iload X36.here hx rfl (hb hby at_265) rfl ?_
        show Steps p.tables e below (T36.setTop (mkF m 267 #[.val (.int p1), .val (.int p2), .val (.int p3), .val (.int p4), .val (.int (p1 &&& (3 : Int32))), .val (.int (p2 &&& (2147483647 : Int32))), .val (.int cp), .val (.int (3 : Int32)), .val (.int ov), .val (.int fb), .val (.ref ob1), .val (.int (3 : Int32)), .val (.int b0), .val (.int c1), .val (.int c2), .val (.int c3), .unset, .unset] [(.int (3 : Int32))])) t₀
        refine XS.iconst X36.here hx rfl (hb hby at_267) ?_
        show Steps p.tables e below (T36.setTop (mkF m 268 #[.val (.int p1), .val (.int p2), .val (.int p3), .val (.int p4), .val (.int (p1 &&& (3 : Int32))), .val (.int (p2 &&& (2147483647 : Int32))), .val (.int cp), .val (.int (3 : Int32)), .val (.int ov), .val (.int fb), .val (.ref ob1), .val (.int (3 : Int32)), .val (.int b0), .val (.int c1), .val (.int c2), .val (.int c3), .unset, .unset] [(.int (2 : Int32)), (.int (3 : Int32))])) t₀
        refine XS.icmpYes X36.here hx rfl (pc0 := 268) (pc' := 321) rfl (hb hby at_268) rfl (feq (by decide : ¬ ((3 : Int32) = (2 : Int32)))).2 (by decide) (by decide) ?_
        show Steps p.tables e below (T36.setTop (mkF m 321 #[.val (.int p1), .val (.int p2), .val (.int p3), .val (.int p4), .val (.int (p1 &&& (3 : Int32))), .val (.int (p2 &&& (2147483647 : Int32))), .val (.int cp), .val (.int (3 : Int32)), .val (.int ov), .val (.int fb), .val (.ref ob1), .val (.int (3 : Int32)), .val (.int b0), .val (.int c1), .val (.int c2), .val (.int c3), .unset, .unset] [])) t₀
        refine XS.iload X36.here hx rfl (hb hby at_321) rfl ?_
        show Steps p.tables e below (T36.setTop (mkF m 323 #[.val (.int p1), .val (.int p2), .val (.int p3), .val (.int p4), .val (.int (p1 &&& (3 : Int32))), .val (.int (p2 &&& (2147483647 : Int32))), .val (.int cp), .val (.int (3 : Int32)), .val (.int ov), .val (.int fb), .val (.ref ob1), .val (.int (3 : Int32)), .val (.int b0), .val (.int c1), .val (.int c2), .val (.int c3), .unset, .unset] [(.int (3 : Int32))])) t₀
        refine XS.iconst X36.here hx rfl (hb hby at_323) ?_
        show Steps p.tables e below (T36.setTop (mkF m 324 #[.val (.int p1), .val (.int p2), .val (.int p3), .val (.int p4), .val (.int (p1 &&& (3 : Int32))), .val (.int (p2 &&& (2147483647 : Int32))), .val (.int cp), .val (.int (3 : Int32)), .val (.int ov), .val (.int fb), .val (.ref ob1), .val (.int (3 : Int32)), .val (.int b0), .val (.int c1), .val (.int c2), .val (.int c3), .unset, .unset] [(.int (3 : Int32)), (.int (3 : Int32))])) t₀
        refine XS.icmpNo X36.here hx rfl (hb hby at_324) rfl (teq (by decide : ((3 : Int32) = (3 : Int32)))).2 ?_
        show Steps p.tables e below (T36.setTop (mkF m 327 #[.val (.int p1), .val (.int p2), .val (.int p3), .val (.int p4), .val (.int (p1 &&& (3 : Int32))), .val (.int (p2 &&& (2147483647 : Int32))), .val (.int cp), .val (.int (3 : Int32)), .val (.int ov), .val (.int fb), .val (.ref ob1), .val (.int (3 : Int32)), .val (.int b0), .val (.int c1), .val (.int c2), .val (.int c3), .unset, .unset] [])) t₀
        refine XS.iload X36.here hx rfl (hb hby at_327) rfl ?_
        show Steps p.tables e below (T36.setTop (mkF m 329 #[.val (.int p1), .val (.int p2), .val (.int p3), .val (.int p4), .val (.int (p1 &&& (3 : Int32))), .val (.int (p2 &&& (2147483647 : Int32))), .val (.int cp), .val (.int (3 : Int32)), .val (.int ov), .val (.int fb), .val (.ref ob1), .val (.int (3 : Int32)), .val (.int b0), .val (.int c1), .val (.int c2), .val (.int c3), .unset, .unset] [(.int b0)])) t₀
        refine XS.sipush X36.here hx rfl (hb hby at_329) ?_
        show Steps p.tables e below (T36.setTop (mkF m 332 #[.val (.int p1), .val (.int p2), .val (.int p3), .val (.int p4), .val (.int (p1 &&& (3 : Int32))), .val (.int (p2 &&& (2147483647 : Int32))), .val (.int cp), .val (.int (3 : Int32)), .val (.int ov), .val (.int fb), .val (.ref ob1), .val (.int (3 : Int32)), .val (.int b0), .val (.int c1), .val (.int c2), .val (.int c3), .unset, .unset] [(.int (240 : Int32)), (.int b0)])) t₀
        refine XS.iand X36.here hx rfl (hb hby at_332) rfl ?_
        show Steps p.tables e below (T36.setTop (mkF m 333 #[.val (.int p1), .val (.int p2), .val (.int p3), .val (.int p4), .val (.int (p1 &&& (3 : Int32))), .val (.int (p2 &&& (2147483647 : Int32))), .val (.int cp), .val (.int (3 : Int32)), .val (.int ov), .val (.int fb), .val (.ref ob1), .val (.int (3 : Int32)), .val (.int b0), .val (.int c1), .val (.int c2), .val (.int c3), .unset, .unset] [(.int (b0 &&& (240 : Int32)))])) t₀
        refine XS.sipush X36.here hx rfl (hb hby at_333) ?_
        show Steps p.tables e below (T36.setTop (mkF m 336 #[.val (.int p1), .val (.int p2), .val (.int p3), .val (.int p4), .val (.int (p1 &&& (3 : Int32))), .val (.int (p2 &&& (2147483647 : Int32))), .val (.int cp), .val (.int (3 : Int32)), .val (.int ov), .val (.int fb), .val (.ref ob1), .val (.int (3 : Int32)), .val (.int b0), .val (.int c1), .val (.int c2), .val (.int c3), .unset, .unset] [(.int (224 : Int32)), (.int (b0 &&& (240 : Int32)))])) t₀
        refine XS.icmpNo X36.here hx rfl (hb hby at_336) rfl (teq (own_240 (by omega) (by omega))).2 ?_
        show Steps p.tables e below (T36.setTop (mkF m 339 #[.val (.int p1), .val (.int p2), .val (.int p3), .val (.int p4), .val (.int (p1 &&& (3 : Int32))), .val (.int (p2 &&& (2147483647 : Int32))), .val (.int cp), .val (.int (3 : Int32)), .val (.int ov), .val (.int fb), .val (.ref ob1), .val (.int (3 : Int32)), .val (.int b0), .val (.int c1), .val (.int c2), .val (.int c3), .unset, .unset] [])) t₀
        refine XS.iload X36.here hx rfl (hb hby at_339) rfl ?_
        show Steps p.tables e below (T36.setTop (mkF m 341 #[.val (.int p1), .val (.int p2), .val (.int p3), .val (.int p4), .val (.int (p1 &&& (3 : Int32))), .val (.int (p2 &&& (2147483647 : Int32))), .val (.int cp), .val (.int (3 : Int32)), .val (.int ov), .val (.int fb), .val (.ref ob1), .val (.int (3 : Int32)), .val (.int b0), .val (.int c1), .val (.int c2), .val (.int c3), .unset, .unset] [(.int c1)])) t₀
        refine XS.sipush X36.here hx rfl (hb hby at_341) ?_
        show Steps p.tables e below (T36.setTop (mkF m 344 #[.val (.int p1), .val (.int p2), .val (.int p3), .val (.int p4), .val (.int (p1 &&& (3 : Int32))), .val (.int (p2 &&& (2147483647 : Int32))), .val (.int cp), .val (.int (3 : Int32)), .val (.int ov), .val (.int fb), .val (.ref ob1), .val (.int (3 : Int32)), .val (.int b0), .val (.int c1), .val (.int c2), .val (.int c3), .unset, .unset] [(.int (192 : Int32)), (.int c1)])) t₀
        refine XS.iand X36.here hx rfl (hb hby at_344) rfl ?_
        show Steps p.tables e below (T36.setTop (mkF m 345 #[.val (.int p1), .val (.int p2), .val (.int p3), .val (.int p4), .val (.int (p1 &&& (3 : Int32))), .val (.int (p2 &&& (2147483647 : Int32))), .val (.int cp), .val (.int (3 : Int32)), .val (.int ov), .val (.int fb), .val (.ref ob1), .val (.int (3 : Int32)), .val (.int b0), .val (.int c1), .val (.int c2), .val (.int c3), .unset, .unset] [(.int (c1 &&& (192 : Int32)))])) t₀
        refine XS.sipush X36.here hx rfl (hb hby at_345) ?_
        show Steps p.tables e below (T36.setTop (mkF m 348 #[.val (.int p1), .val (.int p2), .val (.int p3), .val (.int p4), .val (.int (p1 &&& (3 : Int32))), .val (.int (p2 &&& (2147483647 : Int32))), .val (.int cp), .val (.int (3 : Int32)), .val (.int ov), .val (.int fb), .val (.ref ob1), .val (.int (3 : Int32)), .val (.int b0), .val (.int c1), .val (.int c2), .val (.int c3), .unset, .unset] [(.int (128 : Int32)), (.int (c1 &&& (192 : Int32)))])) t₀
        refine XS.icmpNo X36.here hx rfl (hb hby at_348) rfl (teq (own_192 (by omega) (by omega))).2 ?_
        show Steps p.tables e below (T36.setTop (mkF m 351 #[.val (.int p1), .val (.int p2), .val (.int p3), .val (.int p4), .val (.int (p1 &&& (3 : Int32))), .val (.int (p2 &&& (2147483647 : Int32))), .val (.int cp), .val (.int (3 : Int32)), .val (.int ov), .val (.int fb), .val (.ref ob1), .val (.int (3 : Int32)), .val (.int b0), .val (.int c1), .val (.int c2), .val (.int c3), .unset, .unset] [])) t₀
        refine XS.iload X36.here hx rfl (hb hby at_351) rfl ?_
        show Steps p.tables e below (T36.setTop (mkF m 353 #[.val (.int p1), .val (.int p2), .val (.int p3), .val (.int p4), .val (.int (p1 &&& (3 : Int32))), .val (.int (p2 &&& (2147483647 : Int32))), .val (.int cp), .val (.int (3 : Int32)), .val (.int ov), .val (.int fb), .val (.ref ob1), .val (.int (3 : Int32)), .val (.int b0), .val (.int c1), .val (.int c2), .val (.int c3), .unset, .unset] [(.int c2)])) t₀
        refine XS.sipush X36.here hx rfl (hb hby at_353) ?_
        show Steps p.tables e below (T36.setTop (mkF m 356 #[.val (.int p1), .val (.int p2), .val (.int p3), .val (.int p4), .val (.int (p1 &&& (3 : Int32))), .val (.int (p2 &&& (2147483647 : Int32))), .val (.int cp), .val (.int (3 : Int32)), .val (.int ov), .val (.int fb), .val (.ref ob1), .val (.int (3 : Int32)), .val (.int b0), .val (.int c1), .val (.int c2), .val (.int c3), .unset, .unset] [(.int (192 : Int32)), (.int c2)])) t₀
        refine XS.iand X36.here hx rfl (hb hby at_356) rfl ?_
        show Steps p.tables e below (T36.setTop (mkF m 357 #[.val (.int p1), .val (.int p2), .val (.int p3), .val (.int p4), .val (.int (p1 &&& (3 : Int32))), .val (.int (p2 &&& (2147483647 : Int32))), .val (.int cp), .val (.int (3 : Int32)), .val (.int ov), .val (.int fb), .val (.ref ob1), .val (.int (3 : Int32)), .val (.int b0), .val (.int c1), .val (.int c2), .val (.int c3), .unset, .unset] [(.int (c2 &&& (192 : Int32)))])) t₀
        refine XS.sipush X36.here hx rfl (hb hby at_357) ?_
        show Steps p.tables e below (T36.setTop (mkF m 360 #[.val (.int p1), .val (.int p2), .val (.int p3), .val (.int p4), .val (.int (p1 &&& (3 : Int32))), .val (.int (p2 &&& (2147483647 : Int32))), .val (.int cp), .val (.int (3 : Int32)), .val (.int ov), .val (.int fb), .val (.ref ob1), .val (.int (3 : Int32)), .val (.int b0), .val (.int c1), .val (.int c2), .val (.int c3), .unset, .unset] [(.int (128 : Int32)), (.int (c2 &&& (192 : Int32)))])) t₀
        refine XS.icmpNo X36.here hx rfl (hb hby at_360) rfl (teq (own_192 (by omega) (by omega))).2 ?_
        show Steps p.tables e below (T36.setTop (mkF m 363 #[.val (.int p1), .val (.int p2), .val (.int p3), .val (.int p4), .val (.int (p1 &&& (3 : Int32))), .val (.int (p2 &&& (2147483647 : Int32))), .val (.int cp), .val (.int (3 : Int32)), .val (.int ov), .val (.int fb), .val (.ref ob1), .val (.int (3 : Int32)), .val (.int b0), .val (.int c1), .val (.int c2), .val (.int c3), .unset, .unset] [])) t₀
        refine XS.iconst X36.here hx rfl (hb hby at_363) ?_
        show Steps p.tables e below (T36.setTop (mkF m 364 #[.val (.int p1), .val (.int p2), .val (.int p3), .val (.int p4), .val (.int (p1 &&& (3 : Int32))), .val (.int (p2 &&& (2147483647 : Int32))), .val (.int cp), .val (.int (3 : Int32)), .val (.int ov), .val (.int fb), .val (.ref ob1), .val (.int (3 : Int32)), .val (.int b0), .val (.int c1), .val (.int c2), .val (.int c3), .unset, .unset] [(.int (1 : Int32))])) t₀
        refine XS.goto X36.here hx rfl (pc0 := 364) (pc' := 368) rfl (hb hby at_364) (by decide) (by decide) ?_
        show Steps p.tables e below (T36.setTop (mkF m 368 #[.val (.int p1), .val (.int p2), .val (.int p3), .val (.int p4), .val (.int (p1 &&& (3 : Int32))), .val (.int (p2 &&& (2147483647 : Int32))), .val (.int cp), .val (.int (3 : Int32)), .val (.int ov), .val (.int fb), .val (.ref ob1), .val (.int (3 : Int32)), .val (.int b0), .val (.int c1), .val (.int c2), .val (.int c3), .unset, .unset] [(.int (1 : Int32))])) t₀
        refine XS.istore X36.here hx rfl (hb hby at_368) rfl (l' := #[.val (.int p1), .val (.int p2), .val (.int p3), .val (.int p4), .val (.int (p1 &&& (3 : Int32))), .val (.int (p2 &&& (2147483647 : Int32))), .val (.int cp), .val (.int (3 : Int32)), .val (.int ov), .val (.int fb), .val (.ref ob1), .val (.int (3 : Int32)), .val (.int b0), .val (.int c1), .val (.int c2), .val (.int c3), .val (.int (1 : Int32)), .unset]) rfl ?_
        show Steps p.tables e below (T36.setTop (mkF m 370 #[.val (.int p1), .val (.int p2), .val (.int p3), .val (.int p4), .val (.int (p1 &&& (3 : Int32))), .val (.int (p2 &&& (2147483647 : Int32))), .val (.int cp), .val (.int (3 : Int32)), .val (.int ov), .val (.int fb), .val (.ref ob1), .val (.int (3 : Int32)), .val (.int b0), .val (.int c1), .val (.int c2), .val (.int c3), .val (.int (1 : Int32)), .unset] [])) t₀
        refine XS.iload X36.here hx rfl (hb hby at_370) rfl ?_
        show Steps p.tables e below (T36.setTop (mkF m 372 #[.val (.int p1), .val (.int p2), .val (.int p3), .val (.int p4), .val (.int (p1 &&& (3 : Int32))), .val (.int (p2 &&& (2147483647 : Int32))), .val (.int cp), .val (.int (3 : Int32)), .val (.int ov), .val (.int fb), .val (.ref ob1), .val (.int (3 : Int32)), .val (.int b0), .val (.int c1), .val (.int c2), .val (.int c3), .val (.int (1 : Int32)), .unset] [(.int b0)])) t₀
        refine XS.bipush X36.here hx rfl (hb hby at_372) ?_
        show Steps p.tables e below (T36.setTop (mkF m 374 #[.val (.int p1), .val (.int p2), .val (.int p3), .val (.int p4), .val (.int (p1 &&& (3 : Int32))), .val (.int (p2 &&& (2147483647 : Int32))), .val (.int cp), .val (.int (3 : Int32)), .val (.int ov), .val (.int fb), .val (.ref ob1), .val (.int (3 : Int32)), .val (.int b0), .val (.int c1), .val (.int c2), .val (.int c3), .val (.int (1 : Int32)), .unset] [(.int (15 : Int32)), (.int b0)])) t₀
        refine XS.iand X36.here hx rfl (hb hby at_374) rfl ?_
        show Steps p.tables e below (T36.setTop (mkF m 375 #[.val (.int p1), .val (.int p2), .val (.int p3), .val (.int p4), .val (.int (p1 &&& (3 : Int32))), .val (.int (p2 &&& (2147483647 : Int32))), .val (.int cp), .val (.int (3 : Int32)), .val (.int ov), .val (.int fb), .val (.ref ob1), .val (.int (3 : Int32)), .val (.int b0), .val (.int c1), .val (.int c2), .val (.int c3), .val (.int (1 : Int32)), .unset] [(.int (b0 &&& (15 : Int32)))])) t₀
        refine XS.bipush X36.here hx rfl (hb hby at_375) ?_
        show Steps p.tables e below (T36.setTop (mkF m 377 #[.val (.int p1), .val (.int p2), .val (.int p3), .val (.int p4), .val (.int (p1 &&& (3 : Int32))), .val (.int (p2 &&& (2147483647 : Int32))), .val (.int cp), .val (.int (3 : Int32)), .val (.int ov), .val (.int fb), .val (.ref ob1), .val (.int (3 : Int32)), .val (.int b0), .val (.int c1), .val (.int c2), .val (.int c3), .val (.int (1 : Int32)), .unset] [(.int (12 : Int32)), (.int (b0 &&& (15 : Int32)))])) t₀
        refine XS.ishl X36.here hx rfl (hb hby at_377) rfl ?_
        show Steps p.tables e below (T36.setTop (mkF m 378 #[.val (.int p1), .val (.int p2), .val (.int p3), .val (.int p4), .val (.int (p1 &&& (3 : Int32))), .val (.int (p2 &&& (2147483647 : Int32))), .val (.int cp), .val (.int (3 : Int32)), .val (.int ov), .val (.int fb), .val (.ref ob1), .val (.int (3 : Int32)), .val (.int b0), .val (.int c1), .val (.int c2), .val (.int c3), .val (.int (1 : Int32)), .unset] [(.int ((b0 &&& (15 : Int32)) <<< ((12 : Int32) &&& 31)))])) t₀
        refine XS.iload X36.here hx rfl (hb hby at_378) rfl ?_
        show Steps p.tables e below (T36.setTop (mkF m 380 #[.val (.int p1), .val (.int p2), .val (.int p3), .val (.int p4), .val (.int (p1 &&& (3 : Int32))), .val (.int (p2 &&& (2147483647 : Int32))), .val (.int cp), .val (.int (3 : Int32)), .val (.int ov), .val (.int fb), .val (.ref ob1), .val (.int (3 : Int32)), .val (.int b0), .val (.int c1), .val (.int c2), .val (.int c3), .val (.int (1 : Int32)), .unset] [(.int c1), (.int ((b0 &&& (15 : Int32)) <<< ((12 : Int32) &&& 31)))])) t₀
        refine XS.bipush X36.here hx rfl (hb hby at_380) ?_
        show Steps p.tables e below (T36.setTop (mkF m 382 #[.val (.int p1), .val (.int p2), .val (.int p3), .val (.int p4), .val (.int (p1 &&& (3 : Int32))), .val (.int (p2 &&& (2147483647 : Int32))), .val (.int cp), .val (.int (3 : Int32)), .val (.int ov), .val (.int fb), .val (.ref ob1), .val (.int (3 : Int32)), .val (.int b0), .val (.int c1), .val (.int c2), .val (.int c3), .val (.int (1 : Int32)), .unset] [(.int (63 : Int32)), (.int c1), (.int ((b0 &&& (15 : Int32)) <<< ((12 : Int32) &&& 31)))])) t₀
        refine XS.iand X36.here hx rfl (hb hby at_382) rfl ?_
        show Steps p.tables e below (T36.setTop (mkF m 383 #[.val (.int p1), .val (.int p2), .val (.int p3), .val (.int p4), .val (.int (p1 &&& (3 : Int32))), .val (.int (p2 &&& (2147483647 : Int32))), .val (.int cp), .val (.int (3 : Int32)), .val (.int ov), .val (.int fb), .val (.ref ob1), .val (.int (3 : Int32)), .val (.int b0), .val (.int c1), .val (.int c2), .val (.int c3), .val (.int (1 : Int32)), .unset] [(.int (c1 &&& (63 : Int32))), (.int ((b0 &&& (15 : Int32)) <<< ((12 : Int32) &&& 31)))])) t₀
        refine XS.bipush X36.here hx rfl (hb hby at_383) ?_
        show Steps p.tables e below (T36.setTop (mkF m 385 #[.val (.int p1), .val (.int p2), .val (.int p3), .val (.int p4), .val (.int (p1 &&& (3 : Int32))), .val (.int (p2 &&& (2147483647 : Int32))), .val (.int cp), .val (.int (3 : Int32)), .val (.int ov), .val (.int fb), .val (.ref ob1), .val (.int (3 : Int32)), .val (.int b0), .val (.int c1), .val (.int c2), .val (.int c3), .val (.int (1 : Int32)), .unset] [(.int (6 : Int32)), (.int (c1 &&& (63 : Int32))), (.int ((b0 &&& (15 : Int32)) <<< ((12 : Int32) &&& 31)))])) t₀
        refine XS.ishl X36.here hx rfl (hb hby at_385) rfl ?_
        show Steps p.tables e below (T36.setTop (mkF m 386 #[.val (.int p1), .val (.int p2), .val (.int p3), .val (.int p4), .val (.int (p1 &&& (3 : Int32))), .val (.int (p2 &&& (2147483647 : Int32))), .val (.int cp), .val (.int (3 : Int32)), .val (.int ov), .val (.int fb), .val (.ref ob1), .val (.int (3 : Int32)), .val (.int b0), .val (.int c1), .val (.int c2), .val (.int c3), .val (.int (1 : Int32)), .unset] [(.int ((c1 &&& (63 : Int32)) <<< ((6 : Int32) &&& 31))), (.int ((b0 &&& (15 : Int32)) <<< ((12 : Int32) &&& 31)))])) t₀
        refine XS.ior X36.here hx rfl (hb hby at_386) rfl ?_
        show Steps p.tables e below (T36.setTop (mkF m 387 #[.val (.int p1), .val (.int p2), .val (.int p3), .val (.int p4), .val (.int (p1 &&& (3 : Int32))), .val (.int (p2 &&& (2147483647 : Int32))), .val (.int cp), .val (.int (3 : Int32)), .val (.int ov), .val (.int fb), .val (.ref ob1), .val (.int (3 : Int32)), .val (.int b0), .val (.int c1), .val (.int c2), .val (.int c3), .val (.int (1 : Int32)), .unset] [(.int (((b0 &&& (15 : Int32)) <<< ((12 : Int32) &&& 31)) ||| ((c1 &&& (63 : Int32)) <<< ((6 : Int32) &&& 31))))])) t₀
        refine XS.iload X36.here hx rfl (hb hby at_387) rfl ?_
        show Steps p.tables e below (T36.setTop (mkF m 389 #[.val (.int p1), .val (.int p2), .val (.int p3), .val (.int p4), .val (.int (p1 &&& (3 : Int32))), .val (.int (p2 &&& (2147483647 : Int32))), .val (.int cp), .val (.int (3 : Int32)), .val (.int ov), .val (.int fb), .val (.ref ob1), .val (.int (3 : Int32)), .val (.int b0), .val (.int c1), .val (.int c2), .val (.int c3), .val (.int (1 : Int32)), .unset] [(.int c2), (.int (((b0 &&& (15 : Int32)) <<< ((12 : Int32) &&& 31)) ||| ((c1 &&& (63 : Int32)) <<< ((6 : Int32) &&& 31))))])) t₀
        refine XS.bipush X36.here hx rfl (hb hby at_389) ?_
        show Steps p.tables e below (T36.setTop (mkF m 391 #[.val (.int p1), .val (.int p2), .val (.int p3), .val (.int p4), .val (.int (p1 &&& (3 : Int32))), .val (.int (p2 &&& (2147483647 : Int32))), .val (.int cp), .val (.int (3 : Int32)), .val (.int ov), .val (.int fb), .val (.ref ob1), .val (.int (3 : Int32)), .val (.int b0), .val (.int c1), .val (.int c2), .val (.int c3), .val (.int (1 : Int32)), .unset] [(.int (63 : Int32)), (.int c2), (.int (((b0 &&& (15 : Int32)) <<< ((12 : Int32) &&& 31)) ||| ((c1 &&& (63 : Int32)) <<< ((6 : Int32) &&& 31))))])) t₀
        refine XS.iand X36.here hx rfl (hb hby at_391) rfl ?_
        show Steps p.tables e below (T36.setTop (mkF m 392 #[.val (.int p1), .val (.int p2), .val (.int p3), .val (.int p4), .val (.int (p1 &&& (3 : Int32))), .val (.int (p2 &&& (2147483647 : Int32))), .val (.int cp), .val (.int (3 : Int32)), .val (.int ov), .val (.int fb), .val (.ref ob1), .val (.int (3 : Int32)), .val (.int b0), .val (.int c1), .val (.int c2), .val (.int c3), .val (.int (1 : Int32)), .unset] [(.int (c2 &&& (63 : Int32))), (.int (((b0 &&& (15 : Int32)) <<< ((12 : Int32) &&& 31)) ||| ((c1 &&& (63 : Int32)) <<< ((6 : Int32) &&& 31))))])) t₀
        refine XS.ior X36.here hx rfl (hb hby at_392) rfl ?_
        show Steps p.tables e below (T36.setTop (mkF m 393 #[.val (.int p1), .val (.int p2), .val (.int p3), .val (.int p4), .val (.int (p1 &&& (3 : Int32))), .val (.int (p2 &&& (2147483647 : Int32))), .val (.int cp), .val (.int (3 : Int32)), .val (.int ov), .val (.int fb), .val (.ref ob1), .val (.int (3 : Int32)), .val (.int b0), .val (.int c1), .val (.int c2), .val (.int c3), .val (.int (1 : Int32)), .unset] [(.int ((((b0 &&& (15 : Int32)) <<< ((12 : Int32) &&& 31)) ||| ((c1 &&& (63 : Int32)) <<< ((6 : Int32) &&& 31))) ||| (c2 &&& (63 : Int32))))])) t₀
        refine XS.istore X36.here hx rfl (hb hby at_393) rfl (l' := #[.val (.int p1), .val (.int p2), .val (.int p3), .val (.int p4), .val (.int (p1 &&& (3 : Int32))), .val (.int (p2 &&& (2147483647 : Int32))), .val (.int cp), .val (.int (3 : Int32)), .val (.int ov), .val (.int fb), .val (.ref ob1), .val (.int (3 : Int32)), .val (.int b0), .val (.int c1), .val (.int c2), .val (.int c3), .val (.int (1 : Int32)), .val (.int ((((b0 &&& (15 : Int32)) <<< ((12 : Int32) &&& 31)) ||| ((c1 &&& (63 : Int32)) <<< ((6 : Int32) &&& 31))) ||| (c2 &&& (63 : Int32))))]) rfl ?_
        show Steps p.tables e below (T36.setTop (mkF m 395 #[.val (.int p1), .val (.int p2), .val (.int p3), .val (.int p4), .val (.int (p1 &&& (3 : Int32))), .val (.int (p2 &&& (2147483647 : Int32))), .val (.int cp), .val (.int (3 : Int32)), .val (.int ov), .val (.int fb), .val (.ref ob1), .val (.int (3 : Int32)), .val (.int b0), .val (.int c1), .val (.int c2), .val (.int c3), .val (.int (1 : Int32)), .val (.int ((((b0 &&& (15 : Int32)) <<< ((12 : Int32) &&& 31)) ||| ((c1 &&& (63 : Int32)) <<< ((6 : Int32) &&& 31))) ||| (c2 &&& (63 : Int32))))] [])) t₀
        refine XS.goto X36.here hx rfl (pc0 := 395) (pc' := 487) rfl (hb hby at_395) (by decide) (by decide) ?_
        show Steps p.tables e below (T36.setTop (mkF m 487 #[.val (.int p1), .val (.int p2), .val (.int p3), .val (.int p4), .val (.int (p1 &&& (3 : Int32))), .val (.int (p2 &&& (2147483647 : Int32))), .val (.int cp), .val (.int (3 : Int32)), .val (.int ov), .val (.int fb), .val (.ref ob1), .val (.int (3 : Int32)), .val (.int b0), .val (.int c1), .val (.int c2), .val (.int c3), .val (.int (1 : Int32)), .val (.int ((((b0 &&& (15 : Int32)) <<< ((12 : Int32) &&& 31)) ||| ((c1 &&& (63 : Int32)) <<< ((6 : Int32) &&& 31))) ||| (c2 &&& (63 : Int32))))] [])) t₀
        refine XS.iload X36.here hx rfl (hb hby at_487) rfl ?_
        show Steps p.tables e below (T36.setTop (mkF m 489 #[.val (.int p1), .val (.int p2), .val (.int p3), .val (.int p4), .val (.int (p1 &&& (3 : Int32))), .val (.int (p2 &&& (2147483647 : Int32))), .val (.int cp), .val (.int (3 : Int32)), .val (.int ov), .val (.int fb), .val (.ref ob1), .val (.int (3 : Int32)), .val (.int b0), .val (.int c1), .val (.int c2), .val (.int c3), .val (.int (1 : Int32)), .val (.int ((((b0 &&& (15 : Int32)) <<< ((12 : Int32) &&& 31)) ||| ((c1 &&& (63 : Int32)) <<< ((6 : Int32) &&& 31))) ||| (c2 &&& (63 : Int32))))] [(.int (1 : Int32))])) t₀
        refine XS.ifNo X36.here hx rfl (hb hby at_489) rfl ((if0 _ _).trans (feq (by decide : ¬ ((1 : Int32) = (0 : Int32)))).1) ?_
        show Steps p.tables e below (T36.setTop (mkF m 492 #[.val (.int p1), .val (.int p2), .val (.int p3), .val (.int p4), .val (.int (p1 &&& (3 : Int32))), .val (.int (p2 &&& (2147483647 : Int32))), .val (.int cp), .val (.int (3 : Int32)), .val (.int ov), .val (.int fb), .val (.ref ob1), .val (.int (3 : Int32)), .val (.int b0), .val (.int c1), .val (.int c2), .val (.int c3), .val (.int (1 : Int32)), .val (.int ((((b0 &&& (15 : Int32)) <<< ((12 : Int32) &&& 31)) ||| ((c1 &&& (63 : Int32)) <<< ((6 : Int32) &&& 31))) ||| (c2 &&& (63 : Int32))))] [])) t₀
        refine XS.iload X36.here hx rfl (hb hby at_492) rfl ?_
        show Steps p.tables e below (T36.setTop (mkF m 494 #[.val (.int p1), .val (.int p2), .val (.int p3), .val (.int p4), .val (.int (p1 &&& (3 : Int32))), .val (.int (p2 &&& (2147483647 : Int32))), .val (.int cp), .val (.int (3 : Int32)), .val (.int ov), .val (.int fb), .val (.ref ob1), .val (.int (3 : Int32)), .val (.int b0), .val (.int c1), .val (.int c2), .val (.int c3), .val (.int (1 : Int32)), .val (.int ((((b0 &&& (15 : Int32)) <<< ((12 : Int32) &&& 31)) ||| ((c1 &&& (63 : Int32)) <<< ((6 : Int32) &&& 31))) ||| (c2 &&& (63 : Int32))))] [(.int ((((b0 &&& (15 : Int32)) <<< ((12 : Int32) &&& 31)) ||| ((c1 &&& (63 : Int32)) <<< ((6 : Int32) &&& 31))) ||| (c2 &&& (63 : Int32))))])) t₀
        refine XS.iload X36.here hx rfl (hb hby at_494) rfl ?_
        show Steps p.tables e below (T36.setTop (mkF m 496 #[.val (.int p1), .val (.int p2), .val (.int p3), .val (.int p4), .val (.int (p1 &&& (3 : Int32))), .val (.int (p2 &&& (2147483647 : Int32))), .val (.int cp), .val (.int (3 : Int32)), .val (.int ov), .val (.int fb), .val (.ref ob1), .val (.int (3 : Int32)), .val (.int b0), .val (.int c1), .val (.int c2), .val (.int c3), .val (.int (1 : Int32)), .val (.int ((((b0 &&& (15 : Int32)) <<< ((12 : Int32) &&& 31)) ||| ((c1 &&& (63 : Int32)) <<< ((6 : Int32) &&& 31))) ||| (c2 &&& (63 : Int32))))] [(.int cp), (.int ((((b0 &&& (15 : Int32)) <<< ((12 : Int32) &&& 31)) ||| ((c1 &&& (63 : Int32)) <<< ((6 : Int32) &&& 31))) ||| (c2 &&& (63 : Int32))))])) t₀
        refine XS.icmpYes X36.here hx rfl (pc0 := 496) (pc' := 501) rfl (hb hby at_496) rfl (teq (own_dec3 (by omega) (by omega) (by omega) (by omega) (by omega))).1 (by decide) (by decide) ?_
        exact k₀
      exact tlK T36 T36.heap _ X36 rfl N36 z_x36 _ B36 _ _ _ _ _ _ (own_hk (3 : Int32) 3 rfl (by decide) ho1 ho2 hk36)
    ·
      obtain ⟨hwt, hl, hu⟩ := hW
      subst hwt
      show G (T17.setTop (mkF m 167 #[.val (.int p1), .val (.int p2), .val (.int p3), .val (.int p4), .val (.int (p1 &&& (3 : Int32))), .val (.int (p2 &&& (2147483647 : Int32))), .val (.int cp), .val (.int (4 : Int32)), .val (.int ov), .val (.int fb), .val (.ref ob1), .unset, .unset, .unset, .unset, .unset, .unset, .unset] []))
      refine hG _ (T17.setTop (mkF m 173 #[.val (.int p1), .val (.int p2), .val (.int p3), .val (.int p4), .val (.int (p1 &&& (3 : Int32))), .val (.int (p2 &&& (2147483647 : Int32))), .val (.int cp), .val (.int (4 : Int32)), .val (.int ov), .val (.int fb), .val (.ref ob1), .unset, .unset, .unset, .unset, .unset, .unset, .unset] [(.int ov), (.ref ob1), (.int cp)])) (fun t₀ k₀ => ?_) ?_
      · show Steps p.tables e below (T17.setTop (mkF m 167 #[.val (.int p1), .val (.int p2), .val (.int p3), .val (.int p4), .val (.int (p1 &&& (3 : Int32))), .val (.int (p2 &&& (2147483647 : Int32))), .val (.int cp), .val (.int (4 : Int32)), .val (.int ov), .val (.int fb), .val (.ref ob1), .unset, .unset, .unset, .unset, .unset, .unset, .unset] [])) t₀
        refine XS.iload X17.here hx rfl (hb hby at_167) rfl ?_
        show Steps p.tables e below (T17.setTop (mkF m 169 #[.val (.int p1), .val (.int p2), .val (.int p3), .val (.int p4), .val (.int (p1 &&& (3 : Int32))), .val (.int (p2 &&& (2147483647 : Int32))), .val (.int cp), .val (.int (4 : Int32)), .val (.int ov), .val (.int fb), .val (.ref ob1), .unset, .unset, .unset, .unset, .unset, .unset, .unset] [(.int cp)])) t₀
        refine XS.aload X17.here hx rfl (hb hby at_169) rfl rfl ?_
        show Steps p.tables e below (T17.setTop (mkF m 171 #[.val (.int p1), .val (.int p2), .val (.int p3), .val (.int p4), .val (.int (p1 &&& (3 : Int32))), .val (.int (p2 &&& (2147483647 : Int32))), .val (.int cp), .val (.int (4 : Int32)), .val (.int ov), .val (.int fb), .val (.ref ob1), .unset, .unset, .unset, .unset, .unset, .unset, .unset] [(.ref ob1), (.int cp)])) t₀
        refine XS.iload X17.here hx rfl (hb hby at_171) rfl ?_
        exact k₀
      obtain ⟨_, _, ⟨T41, L41, k41, n41⟩, -, X41, ⟨Lc41, hQ41, l41, y41, z41⟩, st41⟩ := Jvm.LawKit.callS X17 hx (y := (⟨"com/example/opledger/opledger/Utf8", "encode", "(I[BI)I"⟩ : MethodName)) hown (mvT hZ (hw _ (List.mem_of_getElem? (i := 2) rfl))) (mvT hZ (hw _ (List.mem_of_getElem? (i := 3) rfl))) (mvT hZ (hw _ (List.mem_of_getElem? (i := 4) rfl))) (mvT hZ (hw _ (List.mem_of_getElem? (i := 5) rfl))) (by decide) (backOf (W := 0) (rmE4 l Z a0 hw [] cp ob1 ov fb wL kL h17 n0 z_17 o_x17 S_LEAD VL g_ob1 OB hl hu ho1 ho2) hZ (hw _ (List.mem_of_getElem? (i := 5) rfl)) (hw _ (List.mem_of_getElem? (i := 4) rfl)) (by decide) (by decide)) (g := (mkF m 173 #[.val (.int p1), .val (.int p2), .val (.int p3), .val (.int p4), .val (.int (p1 &&& (3 : Int32))), .val (.int (p2 &&& (2147483647 : Int32))), .val (.int cp), .val (.int (4 : Int32)), .val (.int ov), .val (.int fb), .val (.ref ob1), .unset, .unset, .unset, .unset, .unset, .unset, .unset] [(.int ov), (.ref ob1), (.int cp)])) rfl (by rw [hml]; rfl) (argsL := [(.int cp), (.ref ob1), (.int ov)]) (rest := []) (lenOf pd_0 rfl) rfl (by show 2 * 0 + _ ≤ _; exact Nat.le_of_eq rfl) (hb hby at_173) (fun _ _ => ⟨rfl, e17, (by decide : 1 + 0 ≤ _), (by decide : 8 + 0 ≤ _)⟩)
      dsimp only [Pt.U, Pt.locs, Pt.cells, Pt.slots] at X41 l41 y41 z41 st41 hQ41
      subst l41 y41 z41
      obtain ⟨f41, rfl, N41q, K41, B41, y041, y141, y241, y341, hk41⟩ := hQ41
      have N41 := Fr.app N17 N41q
      refine hG _ _ (fun t₀ k₀ => st41 _ k₀) ?_
      have z_x41 := Nat.le_trans z_17 K41.1
      have o_x41 := o_x17.keep K41 (allS g_ob1 all0)
      show G (T41.setTop (mkF m 176 #[.val (.int p1), .val (.int p2), .val (.int p3), .val (.int p4), .val (.int (p1 &&& (3 : Int32))), .val (.int (p2 &&& (2147483647 : Int32))), .val (.int cp), .val (.int (4 : Int32)), .val (.int ov), .val (.int fb), .val (.ref ob1), .unset, .unset, .unset, .unset, .unset, .unset, .unset] [(.int (4 : Int32))]))
      refine hG _ (T41.setTop (mkF m 191 #[.val (.int p1), .val (.int p2), .val (.int p3), .val (.int p4), .val (.int (p1 &&& (3 : Int32))), .val (.int (p2 &&& (2147483647 : Int32))), .val (.int cp), .val (.int (4 : Int32)), .val (.int ov), .val (.int fb), .val (.ref ob1), .val (.int (4 : Int32)), .unset, .unset, .unset, .unset, .unset, .unset] [(.int ov), (.ref ob1)])) (fun t₀ k₀ => ?_) ?_
      · show Steps p.tables e below (T41.setTop (mkF m 176 #[.val (.int p1), .val (.int p2), .val (.int p3), .val (.int p4), .val (.int (p1 &&& (3 : Int32))), .val (.int (p2 &&& (2147483647 : Int32))), .val (.int cp), .val (.int (4 : Int32)), .val (.int ov), .val (.int fb), .val (.ref ob1), .unset, .unset, .unset, .unset, .unset, .unset, .unset] [(.int (4 : Int32))])) t₀
        refine XS.istore X41.here hx rfl (hb hby at_176) rfl (l' := #[.val (.int p1), .val (.int p2), .val (.int p3), .val (.int p4), .val (.int (p1 &&& (3 : Int32))), .val (.int (p2 &&& (2147483647 : Int32))), .val (.int cp), .val (.int (4 : Int32)), .val (.int ov), .val (.int fb), .val (.ref ob1), .val (.int (4 : Int32)), .unset, .unset, .unset, .unset, .unset, .unset]) rfl ?_
        show Steps p.tables e below (T41.setTop (mkF m 178 #[.val (.int p1), .val (.int p2), .val (.int p3), .val (.int p4), .val (.int (p1 &&& (3 : Int32))), .val (.int (p2 &&& (2147483647 : Int32))), .val (.int cp), .val (.int (4 : Int32)), .val (.int ov), .val (.int fb), .val (.ref ob1), .val (.int (4 : Int32)), .unset, .unset, .unset, .unset, .unset, .unset] [])) t₀
        refine XS.iload X41.here hx rfl (hb hby at_178) rfl ?_
        show Steps p.tables e below (T41.setTop (mkF m 180 #[.val (.int p1), .val (.int p2), .val (.int p3), .val (.int p4), .val (.int (p1 &&& (3 : Int32))), .val (.int (p2 &&& (2147483647 : Int32))), .val (.int cp), .val (.int (4 : Int32)), .val (.int ov), .val (.int fb), .val (.ref ob1), .val (.int (4 : Int32)), .unset, .unset, .unset, .unset, .unset, .unset] [(.int (4 : Int32))])) t₀
        refine XS.iload X41.here hx rfl (hb hby at_180) rfl ?_
        show Steps p.tables e below (T41.setTop (mkF m 182 #[.val (.int p1), .val (.int p2), .val (.int p3), .val (.int p4), .val (.int (p1 &&& (3 : Int32))), .val (.int (p2 &&& (2147483647 : Int32))), .val (.int cp), .val (.int (4 : Int32)), .val (.int ov), .val (.int fb), .val (.ref ob1), .val (.int (4 : Int32)), .unset, .unset, .unset, .unset, .unset, .unset] [(.int (4 : Int32)), (.int (4 : Int32))])) t₀
        refine XS.icmpYes X41.here hx rfl (pc0 := 182) (pc' := 187) rfl (hb hby at_182) rfl (teq (by decide : ((4 : Int32) = (4 : Int32)))).1 (by decide) (by decide) ?_
        show Steps p.tables e below (T41.setTop (mkF m 187 #[.val (.int p1), .val (.int p2), .val (.int p3), .val (.int p4), .val (.int (p1 &&& (3 : Int32))), .val (.int (p2 &&& (2147483647 : Int32))), .val (.int cp), .val (.int (4 : Int32)), .val (.int ov), .val (.int fb), .val (.ref ob1), .val (.int (4 : Int32)), .unset, .unset, .unset, .unset, .unset, .unset] [])) t₀
        refine XS.aload X41.here hx rfl (hb hby at_187) rfl rfl ?_
        show Steps p.tables e below (T41.setTop (mkF m 189 #[.val (.int p1), .val (.int p2), .val (.int p3), .val (.int p4), .val (.int (p1 &&& (3 : Int32))), .val (.int (p2 &&& (2147483647 : Int32))), .val (.int cp), .val (.int (4 : Int32)), .val (.int ov), .val (.int fb), .val (.ref ob1), .val (.int (4 : Int32)), .unset, .unset, .unset, .unset, .unset, .unset] [(.ref ob1)])) t₀
        refine XS.iload X41.here hx rfl (hb hby at_189) rfl ?_
        exact k₀
      have Bc42 := B41
      obtain ⟨cl42, Ar42, sz42, Hf42⟩ := Bc42
      have hin42 := own_inb (j := ov) sz42 (by omega) (by omega)
      have hat42 : cl42.slots[(ov).toNatClampNeg]? = some (.int (f41 (ov.toNatClampNeg))) := Hf42 _ (by have q := own_nat ho1; omega)
      refine hG _ (T41.setTop (mkF m 204 #[.val (.int p1), .val (.int p2), .val (.int p3), .val (.int p4), .val (.int (p1 &&& (3 : Int32))), .val (.int (p2 &&& (2147483647 : Int32))), .val (.int cp), .val (.int (4 : Int32)), .val (.int ov), .val (.int fb), .val (.ref ob1), .val (.int (4 : Int32)), .val (.int ((f41 (ov.toNatClampNeg)) &&& (255 : Int32))), .unset, .unset, .unset, .unset, .unset] [(.int (ov + (1 : Int32))), (.ref ob1)])) (fun t₀ k₀ => ?_) ?_
      · show Steps p.tables e below (T41.setTop (mkF m 191 #[.val (.int p1), .val (.int p2), .val (.int p3), .val (.int p4), .val (.int (p1 &&& (3 : Int32))), .val (.int (p2 &&& (2147483647 : Int32))), .val (.int cp), .val (.int (4 : Int32)), .val (.int ov), .val (.int fb), .val (.ref ob1), .val (.int (4 : Int32)), .unset, .unset, .unset, .unset, .unset, .unset] [(.int ov), (.ref ob1)])) t₀
        refine X41.baloadBytes hx (j := ov) (v := .int (f41 (ov.toNatClampNeg))) Ar42.1 (State.isArrayOf_alike hZ.alike Ar42.2.1) Ar42.2.2 hin42 hat42 (g := (mkF m 191 #[.val (.int p1), .val (.int p2), .val (.int p3), .val (.int p4), .val (.int (p1 &&& (3 : Int32))), .val (.int (p2 &&& (2147483647 : Int32))), .val (.int cp), .val (.int (4 : Int32)), .val (.int ov), .val (.int fb), .val (.ref ob1), .val (.int (4 : Int32)), .unset, .unset, .unset, .unset, .unset, .unset] [(.int ov), (.ref ob1)])) rfl rfl (hb hby at_191) _ ?_
        show Steps p.tables e below (T41.setTop (mkF m 192 #[.val (.int p1), .val (.int p2), .val (.int p3), .val (.int p4), .val (.int (p1 &&& (3 : Int32))), .val (.int (p2 &&& (2147483647 : Int32))), .val (.int cp), .val (.int (4 : Int32)), .val (.int ov), .val (.int fb), .val (.ref ob1), .val (.int (4 : Int32)), .unset, .unset, .unset, .unset, .unset, .unset] [(.int (f41 (ov.toNatClampNeg)))])) t₀
        refine XS.sipush X41.here hx rfl (hb hby at_192) ?_
        show Steps p.tables e below (T41.setTop (mkF m 195 #[.val (.int p1), .val (.int p2), .val (.int p3), .val (.int p4), .val (.int (p1 &&& (3 : Int32))), .val (.int (p2 &&& (2147483647 : Int32))), .val (.int cp), .val (.int (4 : Int32)), .val (.int ov), .val (.int fb), .val (.ref ob1), .val (.int (4 : Int32)), .unset, .unset, .unset, .unset, .unset, .unset] [(.int (255 : Int32)), (.int (f41 (ov.toNatClampNeg)))])) t₀
        refine XS.iand X41.here hx rfl (hb hby at_195) rfl ?_
        show Steps p.tables e below (T41.setTop (mkF m 196 #[.val (.int p1), .val (.int p2), .val (.int p3), .val (.int p4), .val (.int (p1 &&& (3 : Int32))), .val (.int (p2 &&& (2147483647 : Int32))), .val (.int cp), .val (.int (4 : Int32)), .val (.int ov), .val (.int fb), .val (.ref ob1), .val (.int (4 : Int32)), .unset, .unset, .unset, .unset, .unset, .unset] [(.int ((f41 (ov.toNatClampNeg)) &&& (255 : Int32)))])) t₀
        refine XS.istore X41.here hx rfl (hb hby at_196) rfl (l' := #[.val (.int p1), .val (.int p2), .val (.int p3), .val (.int p4), .val (.int (p1 &&& (3 : Int32))), .val (.int (p2 &&& (2147483647 : Int32))), .val (.int cp), .val (.int (4 : Int32)), .val (.int ov), .val (.int fb), .val (.ref ob1), .val (.int (4 : Int32)), .val (.int ((f41 (ov.toNatClampNeg)) &&& (255 : Int32))), .unset, .unset, .unset, .unset, .unset]) rfl ?_
        show Steps p.tables e below (T41.setTop (mkF m 198 #[.val (.int p1), .val (.int p2), .val (.int p3), .val (.int p4), .val (.int (p1 &&& (3 : Int32))), .val (.int (p2 &&& (2147483647 : Int32))), .val (.int cp), .val (.int (4 : Int32)), .val (.int ov), .val (.int fb), .val (.ref ob1), .val (.int (4 : Int32)), .val (.int ((f41 (ov.toNatClampNeg)) &&& (255 : Int32))), .unset, .unset, .unset, .unset, .unset] [])) t₀
        refine XS.aload X41.here hx rfl (hb hby at_198) rfl rfl ?_
        show Steps p.tables e below (T41.setTop (mkF m 200 #[.val (.int p1), .val (.int p2), .val (.int p3), .val (.int p4), .val (.int (p1 &&& (3 : Int32))), .val (.int (p2 &&& (2147483647 : Int32))), .val (.int cp), .val (.int (4 : Int32)), .val (.int ov), .val (.int fb), .val (.ref ob1), .val (.int (4 : Int32)), .val (.int ((f41 (ov.toNatClampNeg)) &&& (255 : Int32))), .unset, .unset, .unset, .unset, .unset] [(.ref ob1)])) t₀
        refine XS.iload X41.here hx rfl (hb hby at_200) rfl ?_
        show Steps p.tables e below (T41.setTop (mkF m 202 #[.val (.int p1), .val (.int p2), .val (.int p3), .val (.int p4), .val (.int (p1 &&& (3 : Int32))), .val (.int (p2 &&& (2147483647 : Int32))), .val (.int cp), .val (.int (4 : Int32)), .val (.int ov), .val (.int fb), .val (.ref ob1), .val (.int (4 : Int32)), .val (.int ((f41 (ov.toNatClampNeg)) &&& (255 : Int32))), .unset, .unset, .unset, .unset, .unset] [(.int ov), (.ref ob1)])) t₀
        refine XS.iconst X41.here hx rfl (hb hby at_202) ?_
        show Steps p.tables e below (T41.setTop (mkF m 203 #[.val (.int p1), .val (.int p2), .val (.int p3), .val (.int p4), .val (.int (p1 &&& (3 : Int32))), .val (.int (p2 &&& (2147483647 : Int32))), .val (.int cp), .val (.int (4 : Int32)), .val (.int ov), .val (.int fb), .val (.ref ob1), .val (.int (4 : Int32)), .val (.int ((f41 (ov.toNatClampNeg)) &&& (255 : Int32))), .unset, .unset, .unset, .unset, .unset] [(.int (1 : Int32)), (.int ov), (.ref ob1)])) t₀
        refine XS.iadd X41.here hx rfl (hb hby at_203) rfl ?_
        exact k₀
      have Bc43 := B41
      obtain ⟨cl43, Ar43, sz43, Hf43⟩ := Bc43
      have ix1 := own_ix (ov := ov) (1 : Int32) 1 rfl (by decide) ho1 ho2
      have hin43 := own_inb (j := (ov + (1 : Int32))) sz43 (by omega) (by omega)
      have hat43 : cl43.slots[((ov + (1 : Int32))).toNatClampNeg]? = some (.int (f41 (ov.toNatClampNeg + 1))) := by rw [ix1.1]; exact Hf43 _ (by have q := own_nat ho1; omega)
      refine hG _ (T41.setTop (mkF m 217 #[.val (.int p1), .val (.int p2), .val (.int p3), .val (.int p4), .val (.int (p1 &&& (3 : Int32))), .val (.int (p2 &&& (2147483647 : Int32))), .val (.int cp), .val (.int (4 : Int32)), .val (.int ov), .val (.int fb), .val (.ref ob1), .val (.int (4 : Int32)), .val (.int ((f41 (ov.toNatClampNeg)) &&& (255 : Int32))), .val (.int ((f41 (ov.toNatClampNeg + 1)) &&& (255 : Int32))), .unset, .unset, .unset, .unset] [(.int (ov + (2 : Int32))), (.ref ob1)])) (fun t₀ k₀ => ?_) ?_
      · show Steps p.tables e below (T41.setTop (mkF m 204 #[.val (.int p1), .val (.int p2), .val (.int p3), .val (.int p4), .val (.int (p1 &&& (3 : Int32))), .val (.int (p2 &&& (2147483647 : Int32))), .val (.int cp), .val (.int (4 : Int32)), .val (.int ov), .val (.int fb), .val (.ref ob1), .val (.int (4 : Int32)), .val (.int ((f41 (ov.toNatClampNeg)) &&& (255 : Int32))), .unset, .unset, .unset, .unset, .unset] [(.int (ov + (1 : Int32))), (.ref ob1)])) t₀
        refine X41.baloadBytes hx (j := (ov + (1 : Int32))) (v := .int (f41 (ov.toNatClampNeg + 1))) Ar43.1 (State.isArrayOf_alike hZ.alike Ar43.2.1) Ar43.2.2 hin43 hat43 (g := (mkF m 204 #[.val (.int p1), .val (.int p2), .val (.int p3), .val (.int p4), .val (.int (p1 &&& (3 : Int32))), .val (.int (p2 &&& (2147483647 : Int32))), .val (.int cp), .val (.int (4 : Int32)), .val (.int ov), .val (.int fb), .val (.ref ob1), .val (.int (4 : Int32)), .val (.int ((f41 (ov.toNatClampNeg)) &&& (255 : Int32))), .unset, .unset, .unset, .unset, .unset] [(.int (ov + (1 : Int32))), (.ref ob1)])) rfl rfl (hb hby at_204) _ ?_
        show Steps p.tables e below (T41.setTop (mkF m 205 #[.val (.int p1), .val (.int p2), .val (.int p3), .val (.int p4), .val (.int (p1 &&& (3 : Int32))), .val (.int (p2 &&& (2147483647 : Int32))), .val (.int cp), .val (.int (4 : Int32)), .val (.int ov), .val (.int fb), .val (.ref ob1), .val (.int (4 : Int32)), .val (.int ((f41 (ov.toNatClampNeg)) &&& (255 : Int32))), .unset, .unset, .unset, .unset, .unset] [(.int (f41 (ov.toNatClampNeg + 1)))])) t₀
        refine XS.sipush X41.here hx rfl (hb hby at_205) ?_
        show Steps p.tables e below (T41.setTop (mkF m 208 #[.val (.int p1), .val (.int p2), .val (.int p3), .val (.int p4), .val (.int (p1 &&& (3 : Int32))), .val (.int (p2 &&& (2147483647 : Int32))), .val (.int cp), .val (.int (4 : Int32)), .val (.int ov), .val (.int fb), .val (.ref ob1), .val (.int (4 : Int32)), .val (.int ((f41 (ov.toNatClampNeg)) &&& (255 : Int32))), .unset, .unset, .unset, .unset, .unset] [(.int (255 : Int32)), (.int (f41 (ov.toNatClampNeg + 1)))])) t₀
        refine XS.iand X41.here hx rfl (hb hby at_208) rfl ?_
        show Steps p.tables e below (T41.setTop (mkF m 209 #[.val (.int p1), .val (.int p2), .val (.int p3), .val (.int p4), .val (.int (p1 &&& (3 : Int32))), .val (.int (p2 &&& (2147483647 : Int32))), .val (.int cp), .val (.int (4 : Int32)), .val (.int ov), .val (.int fb), .val (.ref ob1), .val (.int (4 : Int32)), .val (.int ((f41 (ov.toNatClampNeg)) &&& (255 : Int32))), .unset, .unset, .unset, .unset, .unset] [(.int ((f41 (ov.toNatClampNeg + 1)) &&& (255 : Int32)))])) t₀
        refine XS.istore X41.here hx rfl (hb hby at_209) rfl (l' := #[.val (.int p1), .val (.int p2), .val (.int p3), .val (.int p4), .val (.int (p1 &&& (3 : Int32))), .val (.int (p2 &&& (2147483647 : Int32))), .val (.int cp), .val (.int (4 : Int32)), .val (.int ov), .val (.int fb), .val (.ref ob1), .val (.int (4 : Int32)), .val (.int ((f41 (ov.toNatClampNeg)) &&& (255 : Int32))), .val (.int ((f41 (ov.toNatClampNeg + 1)) &&& (255 : Int32))), .unset, .unset, .unset, .unset]) rfl ?_
        show Steps p.tables e below (T41.setTop (mkF m 211 #[.val (.int p1), .val (.int p2), .val (.int p3), .val (.int p4), .val (.int (p1 &&& (3 : Int32))), .val (.int (p2 &&& (2147483647 : Int32))), .val (.int cp), .val (.int (4 : Int32)), .val (.int ov), .val (.int fb), .val (.ref ob1), .val (.int (4 : Int32)), .val (.int ((f41 (ov.toNatClampNeg)) &&& (255 : Int32))), .val (.int ((f41 (ov.toNatClampNeg + 1)) &&& (255 : Int32))), .unset, .unset, .unset, .unset] [])) t₀
        refine XS.aload X41.here hx rfl (hb hby at_211) rfl rfl ?_
        show Steps p.tables e below (T41.setTop (mkF m 213 #[.val (.int p1), .val (.int p2), .val (.int p3), .val (.int p4), .val (.int (p1 &&& (3 : Int32))), .val (.int (p2 &&& (2147483647 : Int32))), .val (.int cp), .val (.int (4 : Int32)), .val (.int ov), .val (.int fb), .val (.ref ob1), .val (.int (4 : Int32)), .val (.int ((f41 (ov.toNatClampNeg)) &&& (255 : Int32))), .val (.int ((f41 (ov.toNatClampNeg + 1)) &&& (255 : Int32))), .unset, .unset, .unset, .unset] [(.ref ob1)])) t₀
        refine XS.iload X41.here hx rfl (hb hby at_213) rfl ?_
        show Steps p.tables e below (T41.setTop (mkF m 215 #[.val (.int p1), .val (.int p2), .val (.int p3), .val (.int p4), .val (.int (p1 &&& (3 : Int32))), .val (.int (p2 &&& (2147483647 : Int32))), .val (.int cp), .val (.int (4 : Int32)), .val (.int ov), .val (.int fb), .val (.ref ob1), .val (.int (4 : Int32)), .val (.int ((f41 (ov.toNatClampNeg)) &&& (255 : Int32))), .val (.int ((f41 (ov.toNatClampNeg + 1)) &&& (255 : Int32))), .unset, .unset, .unset, .unset] [(.int ov), (.ref ob1)])) t₀
        refine XS.iconst X41.here hx rfl (hb hby at_215) ?_
        show Steps p.tables e below (T41.setTop (mkF m 216 #[.val (.int p1), .val (.int p2), .val (.int p3), .val (.int p4), .val (.int (p1 &&& (3 : Int32))), .val (.int (p2 &&& (2147483647 : Int32))), .val (.int cp), .val (.int (4 : Int32)), .val (.int ov), .val (.int fb), .val (.ref ob1), .val (.int (4 : Int32)), .val (.int ((f41 (ov.toNatClampNeg)) &&& (255 : Int32))), .val (.int ((f41 (ov.toNatClampNeg + 1)) &&& (255 : Int32))), .unset, .unset, .unset, .unset] [(.int (2 : Int32)), (.int ov), (.ref ob1)])) t₀
        refine XS.iadd X41.here hx rfl (hb hby at_216) rfl ?_
        exact k₀
      have Bc44 := B41
      obtain ⟨cl44, Ar44, sz44, Hf44⟩ := Bc44
      have ix2 := own_ix (ov := ov) (2 : Int32) 2 rfl (by decide) ho1 ho2
      have hin44 := own_inb (j := (ov + (2 : Int32))) sz44 (by omega) (by omega)
      have hat44 : cl44.slots[((ov + (2 : Int32))).toNatClampNeg]? = some (.int (f41 (ov.toNatClampNeg + 2))) := by rw [ix2.1]; exact Hf44 _ (by have q := own_nat ho1; omega)
      refine hG _ (T41.setTop (mkF m 230 #[.val (.int p1), .val (.int p2), .val (.int p3), .val (.int p4), .val (.int (p1 &&& (3 : Int32))), .val (.int (p2 &&& (2147483647 : Int32))), .val (.int cp), .val (.int (4 : Int32)), .val (.int ov), .val (.int fb), .val (.ref ob1), .val (.int (4 : Int32)), .val (.int ((f41 (ov.toNatClampNeg)) &&& (255 : Int32))), .val (.int ((f41 (ov.toNatClampNeg + 1)) &&& (255 : Int32))), .val (.int ((f41 (ov.toNatClampNeg + 2)) &&& (255 : Int32))), .unset, .unset, .unset] [(.int (ov + (3 : Int32))), (.ref ob1)])) (fun t₀ k₀ => ?_) ?_
      · show Steps p.tables e below (T41.setTop (mkF m 217 #[.val (.int p1), .val (.int p2), .val (.int p3), .val (.int p4), .val (.int (p1 &&& (3 : Int32))), .val (.int (p2 &&& (2147483647 : Int32))), .val (.int cp), .val (.int (4 : Int32)), .val (.int ov), .val (.int fb), .val (.ref ob1), .val (.int (4 : Int32)), .val (.int ((f41 (ov.toNatClampNeg)) &&& (255 : Int32))), .val (.int ((f41 (ov.toNatClampNeg + 1)) &&& (255 : Int32))), .unset, .unset, .unset, .unset] [(.int (ov + (2 : Int32))), (.ref ob1)])) t₀
        refine X41.baloadBytes hx (j := (ov + (2 : Int32))) (v := .int (f41 (ov.toNatClampNeg + 2))) Ar44.1 (State.isArrayOf_alike hZ.alike Ar44.2.1) Ar44.2.2 hin44 hat44 (g := (mkF m 217 #[.val (.int p1), .val (.int p2), .val (.int p3), .val (.int p4), .val (.int (p1 &&& (3 : Int32))), .val (.int (p2 &&& (2147483647 : Int32))), .val (.int cp), .val (.int (4 : Int32)), .val (.int ov), .val (.int fb), .val (.ref ob1), .val (.int (4 : Int32)), .val (.int ((f41 (ov.toNatClampNeg)) &&& (255 : Int32))), .val (.int ((f41 (ov.toNatClampNeg + 1)) &&& (255 : Int32))), .unset, .unset, .unset, .unset] [(.int (ov + (2 : Int32))), (.ref ob1)])) rfl rfl (hb hby at_217) _ ?_
        show Steps p.tables e below (T41.setTop (mkF m 218 #[.val (.int p1), .val (.int p2), .val (.int p3), .val (.int p4), .val (.int (p1 &&& (3 : Int32))), .val (.int (p2 &&& (2147483647 : Int32))), .val (.int cp), .val (.int (4 : Int32)), .val (.int ov), .val (.int fb), .val (.ref ob1), .val (.int (4 : Int32)), .val (.int ((f41 (ov.toNatClampNeg)) &&& (255 : Int32))), .val (.int ((f41 (ov.toNatClampNeg + 1)) &&& (255 : Int32))), .unset, .unset, .unset, .unset] [(.int (f41 (ov.toNatClampNeg + 2)))])) t₀
        refine XS.sipush X41.here hx rfl (hb hby at_218) ?_
        show Steps p.tables e below (T41.setTop (mkF m 221 #[.val (.int p1), .val (.int p2), .val (.int p3), .val (.int p4), .val (.int (p1 &&& (3 : Int32))), .val (.int (p2 &&& (2147483647 : Int32))), .val (.int cp), .val (.int (4 : Int32)), .val (.int ov), .val (.int fb), .val (.ref ob1), .val (.int (4 : Int32)), .val (.int ((f41 (ov.toNatClampNeg)) &&& (255 : Int32))), .val (.int ((f41 (ov.toNatClampNeg + 1)) &&& (255 : Int32))), .unset, .unset, .unset, .unset] [(.int (255 : Int32)), (.int (f41 (ov.toNatClampNeg + 2)))])) t₀
        refine XS.iand X41.here hx rfl (hb hby at_221) rfl ?_
        show Steps p.tables e below (T41.setTop (mkF m 222 #[.val (.int p1), .val (.int p2), .val (.int p3), .val (.int p4), .val (.int (p1 &&& (3 : Int32))), .val (.int (p2 &&& (2147483647 : Int32))), .val (.int cp), .val (.int (4 : Int32)), .val (.int ov), .val (.int fb), .val (.ref ob1), .val (.int (4 : Int32)), .val (.int ((f41 (ov.toNatClampNeg)) &&& (255 : Int32))), .val (.int ((f41 (ov.toNatClampNeg + 1)) &&& (255 : Int32))), .unset, .unset, .unset, .unset] [(.int ((f41 (ov.toNatClampNeg + 2)) &&& (255 : Int32)))])) t₀
        refine XS.istore X41.here hx rfl (hb hby at_222) rfl (l' := #[.val (.int p1), .val (.int p2), .val (.int p3), .val (.int p4), .val (.int (p1 &&& (3 : Int32))), .val (.int (p2 &&& (2147483647 : Int32))), .val (.int cp), .val (.int (4 : Int32)), .val (.int ov), .val (.int fb), .val (.ref ob1), .val (.int (4 : Int32)), .val (.int ((f41 (ov.toNatClampNeg)) &&& (255 : Int32))), .val (.int ((f41 (ov.toNatClampNeg + 1)) &&& (255 : Int32))), .val (.int ((f41 (ov.toNatClampNeg + 2)) &&& (255 : Int32))), .unset, .unset, .unset]) rfl ?_
        show Steps p.tables e below (T41.setTop (mkF m 224 #[.val (.int p1), .val (.int p2), .val (.int p3), .val (.int p4), .val (.int (p1 &&& (3 : Int32))), .val (.int (p2 &&& (2147483647 : Int32))), .val (.int cp), .val (.int (4 : Int32)), .val (.int ov), .val (.int fb), .val (.ref ob1), .val (.int (4 : Int32)), .val (.int ((f41 (ov.toNatClampNeg)) &&& (255 : Int32))), .val (.int ((f41 (ov.toNatClampNeg + 1)) &&& (255 : Int32))), .val (.int ((f41 (ov.toNatClampNeg + 2)) &&& (255 : Int32))), .unset, .unset, .unset] [])) t₀
        refine XS.aload X41.here hx rfl (hb hby at_224) rfl rfl ?_
        show Steps p.tables e below (T41.setTop (mkF m 226 #[.val (.int p1), .val (.int p2), .val (.int p3), .val (.int p4), .val (.int (p1 &&& (3 : Int32))), .val (.int (p2 &&& (2147483647 : Int32))), .val (.int cp), .val (.int (4 : Int32)), .val (.int ov), .val (.int fb), .val (.ref ob1), .val (.int (4 : Int32)), .val (.int ((f41 (ov.toNatClampNeg)) &&& (255 : Int32))), .val (.int ((f41 (ov.toNatClampNeg + 1)) &&& (255 : Int32))), .val (.int ((f41 (ov.toNatClampNeg + 2)) &&& (255 : Int32))), .unset, .unset, .unset] [(.ref ob1)])) t₀
        refine XS.iload X41.here hx rfl (hb hby at_226) rfl ?_
        show Steps p.tables e below (T41.setTop (mkF m 228 #[.val (.int p1), .val (.int p2), .val (.int p3), .val (.int p4), .val (.int (p1 &&& (3 : Int32))), .val (.int (p2 &&& (2147483647 : Int32))), .val (.int cp), .val (.int (4 : Int32)), .val (.int ov), .val (.int fb), .val (.ref ob1), .val (.int (4 : Int32)), .val (.int ((f41 (ov.toNatClampNeg)) &&& (255 : Int32))), .val (.int ((f41 (ov.toNatClampNeg + 1)) &&& (255 : Int32))), .val (.int ((f41 (ov.toNatClampNeg + 2)) &&& (255 : Int32))), .unset, .unset, .unset] [(.int ov), (.ref ob1)])) t₀
        refine XS.iconst X41.here hx rfl (hb hby at_228) ?_
        show Steps p.tables e below (T41.setTop (mkF m 229 #[.val (.int p1), .val (.int p2), .val (.int p3), .val (.int p4), .val (.int (p1 &&& (3 : Int32))), .val (.int (p2 &&& (2147483647 : Int32))), .val (.int cp), .val (.int (4 : Int32)), .val (.int ov), .val (.int fb), .val (.ref ob1), .val (.int (4 : Int32)), .val (.int ((f41 (ov.toNatClampNeg)) &&& (255 : Int32))), .val (.int ((f41 (ov.toNatClampNeg + 1)) &&& (255 : Int32))), .val (.int ((f41 (ov.toNatClampNeg + 2)) &&& (255 : Int32))), .unset, .unset, .unset] [(.int (3 : Int32)), (.int ov), (.ref ob1)])) t₀
        refine XS.iadd X41.here hx rfl (hb hby at_229) rfl ?_
        exact k₀
      have Bc45 := B41
      obtain ⟨cl45, Ar45, sz45, Hf45⟩ := Bc45
      have ix3 := own_ix (ov := ov) (3 : Int32) 3 rfl (by decide) ho1 ho2
      have hin45 := own_inb (j := (ov + (3 : Int32))) sz45 (by omega) (by omega)
      have hat45 : cl45.slots[((ov + (3 : Int32))).toNatClampNeg]? = some (.int (f41 (ov.toNatClampNeg + 3))) := by rw [ix3.1]; exact Hf45 _ (by have q := own_nat ho1; omega)
      refine hG _ (T41.setTop (mkF m 237 #[.val (.int p1), .val (.int p2), .val (.int p3), .val (.int p4), .val (.int (p1 &&& (3 : Int32))), .val (.int (p2 &&& (2147483647 : Int32))), .val (.int cp), .val (.int (4 : Int32)), .val (.int ov), .val (.int fb), .val (.ref ob1), .val (.int (4 : Int32)), .val (.int ((f41 (ov.toNatClampNeg)) &&& (255 : Int32))), .val (.int ((f41 (ov.toNatClampNeg + 1)) &&& (255 : Int32))), .val (.int ((f41 (ov.toNatClampNeg + 2)) &&& (255 : Int32))), .val (.int ((f41 (ov.toNatClampNeg + 3)) &&& (255 : Int32))), .unset, .unset] [])) (fun t₀ k₀ => ?_) ?_
      · show Steps p.tables e below (T41.setTop (mkF m 230 #[.val (.int p1), .val (.int p2), .val (.int p3), .val (.int p4), .val (.int (p1 &&& (3 : Int32))), .val (.int (p2 &&& (2147483647 : Int32))), .val (.int cp), .val (.int (4 : Int32)), .val (.int ov), .val (.int fb), .val (.ref ob1), .val (.int (4 : Int32)), .val (.int ((f41 (ov.toNatClampNeg)) &&& (255 : Int32))), .val (.int ((f41 (ov.toNatClampNeg + 1)) &&& (255 : Int32))), .val (.int ((f41 (ov.toNatClampNeg + 2)) &&& (255 : Int32))), .unset, .unset, .unset] [(.int (ov + (3 : Int32))), (.ref ob1)])) t₀
        refine X41.baloadBytes hx (j := (ov + (3 : Int32))) (v := .int (f41 (ov.toNatClampNeg + 3))) Ar45.1 (State.isArrayOf_alike hZ.alike Ar45.2.1) Ar45.2.2 hin45 hat45 (g := (mkF m 230 #[.val (.int p1), .val (.int p2), .val (.int p3), .val (.int p4), .val (.int (p1 &&& (3 : Int32))), .val (.int (p2 &&& (2147483647 : Int32))), .val (.int cp), .val (.int (4 : Int32)), .val (.int ov), .val (.int fb), .val (.ref ob1), .val (.int (4 : Int32)), .val (.int ((f41 (ov.toNatClampNeg)) &&& (255 : Int32))), .val (.int ((f41 (ov.toNatClampNeg + 1)) &&& (255 : Int32))), .val (.int ((f41 (ov.toNatClampNeg + 2)) &&& (255 : Int32))), .unset, .unset, .unset] [(.int (ov + (3 : Int32))), (.ref ob1)])) rfl rfl (hb hby at_230) _ ?_
        show Steps p.tables e below (T41.setTop (mkF m 231 #[.val (.int p1), .val (.int p2), .val (.int p3), .val (.int p4), .val (.int (p1 &&& (3 : Int32))), .val (.int (p2 &&& (2147483647 : Int32))), .val (.int cp), .val (.int (4 : Int32)), .val (.int ov), .val (.int fb), .val (.ref ob1), .val (.int (4 : Int32)), .val (.int ((f41 (ov.toNatClampNeg)) &&& (255 : Int32))), .val (.int ((f41 (ov.toNatClampNeg + 1)) &&& (255 : Int32))), .val (.int ((f41 (ov.toNatClampNeg + 2)) &&& (255 : Int32))), .unset, .unset, .unset] [(.int (f41 (ov.toNatClampNeg + 3)))])) t₀
        refine XS.sipush X41.here hx rfl (hb hby at_231) ?_
        show Steps p.tables e below (T41.setTop (mkF m 234 #[.val (.int p1), .val (.int p2), .val (.int p3), .val (.int p4), .val (.int (p1 &&& (3 : Int32))), .val (.int (p2 &&& (2147483647 : Int32))), .val (.int cp), .val (.int (4 : Int32)), .val (.int ov), .val (.int fb), .val (.ref ob1), .val (.int (4 : Int32)), .val (.int ((f41 (ov.toNatClampNeg)) &&& (255 : Int32))), .val (.int ((f41 (ov.toNatClampNeg + 1)) &&& (255 : Int32))), .val (.int ((f41 (ov.toNatClampNeg + 2)) &&& (255 : Int32))), .unset, .unset, .unset] [(.int (255 : Int32)), (.int (f41 (ov.toNatClampNeg + 3)))])) t₀
        refine XS.iand X41.here hx rfl (hb hby at_234) rfl ?_
        show Steps p.tables e below (T41.setTop (mkF m 235 #[.val (.int p1), .val (.int p2), .val (.int p3), .val (.int p4), .val (.int (p1 &&& (3 : Int32))), .val (.int (p2 &&& (2147483647 : Int32))), .val (.int cp), .val (.int (4 : Int32)), .val (.int ov), .val (.int fb), .val (.ref ob1), .val (.int (4 : Int32)), .val (.int ((f41 (ov.toNatClampNeg)) &&& (255 : Int32))), .val (.int ((f41 (ov.toNatClampNeg + 1)) &&& (255 : Int32))), .val (.int ((f41 (ov.toNatClampNeg + 2)) &&& (255 : Int32))), .unset, .unset, .unset] [(.int ((f41 (ov.toNatClampNeg + 3)) &&& (255 : Int32)))])) t₀
        refine XS.istore X41.here hx rfl (hb hby at_235) rfl (l' := #[.val (.int p1), .val (.int p2), .val (.int p3), .val (.int p4), .val (.int (p1 &&& (3 : Int32))), .val (.int (p2 &&& (2147483647 : Int32))), .val (.int cp), .val (.int (4 : Int32)), .val (.int ov), .val (.int fb), .val (.ref ob1), .val (.int (4 : Int32)), .val (.int ((f41 (ov.toNatClampNeg)) &&& (255 : Int32))), .val (.int ((f41 (ov.toNatClampNeg + 1)) &&& (255 : Int32))), .val (.int ((f41 (ov.toNatClampNeg + 2)) &&& (255 : Int32))), .val (.int ((f41 (ov.toNatClampNeg + 3)) &&& (255 : Int32))), .unset, .unset]) rfl ?_
        exact k₀
      obtain ⟨b0, hb0⟩ : ∃ z, z = ((f41 (ov.toNatClampNeg)) &&& (255 : Int32)) := ⟨_, rfl⟩
      rw [← hb0]
      show G (T41.setTop (mkF m 237 #[.val (.int p1), .val (.int p2), .val (.int p3), .val (.int p4), .val (.int (p1 &&& (3 : Int32))), .val (.int (p2 &&& (2147483647 : Int32))), .val (.int cp), .val (.int (4 : Int32)), .val (.int ov), .val (.int fb), .val (.ref ob1), .val (.int (4 : Int32)), .val (.int b0), .val (.int ((f41 (ov.toNatClampNeg + 1)) &&& (255 : Int32))), .val (.int ((f41 (ov.toNatClampNeg + 2)) &&& (255 : Int32))), .val (.int ((f41 (ov.toNatClampNeg + 3)) &&& (255 : Int32))), .unset, .unset] []))
      obtain ⟨c1, hc1⟩ : ∃ z, z = ((f41 (ov.toNatClampNeg + 1)) &&& (255 : Int32)) := ⟨_, rfl⟩
      rw [← hc1]
      show G (T41.setTop (mkF m 237 #[.val (.int p1), .val (.int p2), .val (.int p3), .val (.int p4), .val (.int (p1 &&& (3 : Int32))), .val (.int (p2 &&& (2147483647 : Int32))), .val (.int cp), .val (.int (4 : Int32)), .val (.int ov), .val (.int fb), .val (.ref ob1), .val (.int (4 : Int32)), .val (.int b0), .val (.int c1), .val (.int ((f41 (ov.toNatClampNeg + 2)) &&& (255 : Int32))), .val (.int ((f41 (ov.toNatClampNeg + 3)) &&& (255 : Int32))), .unset, .unset] []))
      obtain ⟨c2, hc2⟩ : ∃ z, z = ((f41 (ov.toNatClampNeg + 2)) &&& (255 : Int32)) := ⟨_, rfl⟩
      rw [← hc2]
      show G (T41.setTop (mkF m 237 #[.val (.int p1), .val (.int p2), .val (.int p3), .val (.int p4), .val (.int (p1 &&& (3 : Int32))), .val (.int (p2 &&& (2147483647 : Int32))), .val (.int cp), .val (.int (4 : Int32)), .val (.int ov), .val (.int fb), .val (.ref ob1), .val (.int (4 : Int32)), .val (.int b0), .val (.int c1), .val (.int c2), .val (.int ((f41 (ov.toNatClampNeg + 3)) &&& (255 : Int32))), .unset, .unset] []))
      obtain ⟨c3, hc3⟩ : ∃ z, z = ((f41 (ov.toNatClampNeg + 3)) &&& (255 : Int32)) := ⟨_, rfl⟩
      rw [← hc3]
      show G (T41.setTop (mkF m 237 #[.val (.int p1), .val (.int p2), .val (.int p3), .val (.int p4), .val (.int (p1 &&& (3 : Int32))), .val (.int (p2 &&& (2147483647 : Int32))), .val (.int cp), .val (.int (4 : Int32)), .val (.int ov), .val (.int fb), .val (.ref ob1), .val (.int (4 : Int32)), .val (.int b0), .val (.int c1), .val (.int c2), .val (.int c3), .unset, .unset] []))
      rw [y041] at hb0
      have v0 : b0.toInt = 240 + cp.toInt / 262144 := own_byte (own_lead (240 : Int32) cp (18 : Int32) 18 rfl 3 (by decide) 240 rfl (by decide) (by decide) (by omega) (by omega) (by decide)) (by omega) (by omega) hb0
      rw [y141] at hc1
      have v1 : c1.toInt = 128 + cp.toInt / 4096 % 64 := own_byte (own_cont cp (12 : Int32) 12 rfl) (by omega) (by omega) hc1
      rw [y241] at hc2
      have v2 : c2.toInt = 128 + cp.toInt / 64 % 64 := own_byte (own_cont cp (6 : Int32) 6 rfl) (by omega) (by omega) hc2
      rw [y341] at hc3
      have v3 : c3.toInt = 128 + cp.toInt / 1 % 64 := own_byte (own_cont cp (0 : Int32) 0 rfl) (by omega) (by omega) hc3
      refine hG _ (T41.setTop (mkF m 501 #[.val (.int p1), .val (.int p2), .val (.int p3), .val (.int p4), .val (.int (p1 &&& (3 : Int32))), .val (.int (p2 &&& (2147483647 : Int32))), .val (.int cp), .val (.int (4 : Int32)), .val (.int ov), .val (.int fb), .val (.ref ob1), .val (.int (4 : Int32)), .val (.int b0), .val (.int c1), .val (.int c2), .val (.int c3), .val (.int (1 : Int32)), .val (.int (((((b0 &&& (7 : Int32)) <<< ((18 : Int32) &&& 31)) ||| ((c1 &&& (63 : Int32)) <<< ((12 : Int32) &&& 31))) ||| ((c2 &&& (63 : Int32)) <<< ((6 : Int32) &&& 31))) ||| (c3 &&& (63 : Int32))))] [])) (fun t₀ k₀ => ?_) ?_
      · show Steps p.tables e below (T41.setTop (mkF m 237 #[.val (.int p1), .val (.int p2), .val (.int p3), .val (.int p4), .val (.int (p1 &&& (3 : Int32))), .val (.int (p2 &&& (2147483647 : Int32))), .val (.int cp), .val (.int (4 : Int32)), .val (.int ov), .val (.int fb), .val (.ref ob1), .val (.int (4 : Int32)), .val (.int b0), .val (.int c1), .val (.int c2), .val (.int c3), .unset, .unset] [])) t₀
        refine XS.iload X41.here hx rfl (hb hby at_237) rfl ?_
        show Steps p.tables e below (T41.setTop (mkF m 239 #[.val (.int p1), .val (.int p2), .val (.int p3), .val (.int p4), .val (.int (p1 &&& (3 : Int32))), .val (.int (p2 &&& (2147483647 : Int32))), .val (.int cp), .val (.int (4 : Int32)), .val (.int ov), .val (.int fb), .val (.ref ob1), .val (.int (4 : Int32)), .val (.int b0), .val (.int c1), .val (.int c2), .val (.int c3), .unset, .unset] [(.int (4 : Int32))])) t₀
        refine XS.iconst X41.here hx rfl (hb hby at_239) ?_
        show Steps p.tables e below (T41.setTop (mkF m 240 #[.val (.int p1), .val (.int p2), .val (.int p3), .val (.int p4), .val (.int (p1 &&& (3 : Int32))), .val (.int (p2 &&& (2147483647 : Int32))), .val (.int cp), .val (.int (4 : Int32)), .val (.int ov), .val (.int fb), .val (.ref ob1), .val (.int (4 : Int32)), .val (.int b0), .val (.int c1), .val (.int c2), .val (.int c3), .unset, .unset] [(.int (1 : Int32)), (.int (4 : Int32))])) t₀
        refine XS.icmpYes X41.here hx rfl (pc0 := 240) (pc' := 265) rfl (hb hby at_240) rfl (feq (by decide : ¬ ((4 : Int32) = (1 : Int32)))).2 (by decide) (by decide) ?_
        show Steps p.tables e below (T41.setTop (mkF m 265 #[.val (.int p1), .val (.int p2), .val (.int p3), .val (.int p4), .val (.int (p1 &&& (3 : Int32))), .val (.int (p2 &&& (2147483647 : Int32))), .val (.int cp), .val (.int (4 : Int32)), .val (.int ov), .val (.int fb), .val (.ref ob1), .val (.int (4 : Int32)), .val (.int b0), .val (.int c1), .val (.int c2), .val (.int c3), .unset, .unset] [])) t₀
        refine XS.iload X41.here hx rfl (hb hby at_265) rfl ?_
        show Steps p.tables e below (T41.setTop (mkF m 267 #[.val (.int p1), .val (.int p2), .val (.int p3), .val (.int p4), .val (.int (p1 &&& (3 : Int32))), .val (.int (p2 &&& (2147483647 : Int32))), .val (.int cp), .val (.int (4 : Int32)), .val (.int ov), .val (.int fb), .val (.ref ob1), .val (.int (4 : Int32)), .val (.int b0), .val (.int c1), .val (.int c2), .val (.int c3), .unset, .unset] [(.int (4 : Int32))])) t₀
        refine XS.iconst X41.here hx rfl (hb hby at_267) ?_
        show Steps p.tables e below (T41.setTop (mkF m 268 #[.val (.int p1), .val (.int p2), .val (.int p3), .val (.int p4), .val (.int (p1 &&& (3 : Int32))), .val (.int (p2 &&& (2147483647 : Int32))), .val (.int cp), .val (.int (4 : Int32)), .val (.int ov), .val (.int fb), .val (.ref ob1), .val (.int (4 : Int32)), .val (.int b0), .val (.int c1), .val (.int c2), .val (.int c3), .unset, .unset] [(.int (2 : Int32)), (.int (4 : Int32))])) t₀
        refine XS.icmpYes X41.here hx rfl (pc0 := 268) (pc' := 321) rfl (hb hby at_268) rfl (feq (by decide : ¬ ((4 : Int32) = (2 : Int32)))).2 (by decide) (by decide) ?_
        show Steps p.tables e below (T41.setTop (mkF m 321 #[.val (.int p1), .val (.int p2), .val (.int p3), .val (.int p4), .val (.int (p1 &&& (3 : Int32))), .val (.int (p2 &&& (2147483647 : Int32))), .val (.int cp), .val (.int (4 : Int32)), .val (.int ov), .val (.int fb), .val (.ref ob1), .val (.int (4 : Int32)), .val (.int b0), .val (.int c1), .val (.int c2), .val (.int c3), .unset, .unset] [])) t₀
        refine XS.iload X41.here hx rfl (hb hby at_321) rfl ?_
        show Steps p.tables e below (T41.setTop (mkF m 323 #[.val (.int p1), .val (.int p2), .val (.int p3), .val (.int p4), .val (.int (p1 &&& (3 : Int32))), .val (.int (p2 &&& (2147483647 : Int32))), .val (.int cp), .val (.int (4 : Int32)), .val (.int ov), .val (.int fb), .val (.ref ob1), .val (.int (4 : Int32)), .val (.int b0), .val (.int c1), .val (.int c2), .val (.int c3), .unset, .unset] [(.int (4 : Int32))])) t₀
        refine XS.iconst X41.here hx rfl (hb hby at_323) ?_
        show Steps p.tables e below (T41.setTop (mkF m 324 #[.val (.int p1), .val (.int p2), .val (.int p3), .val (.int p4), .val (.int (p1 &&& (3 : Int32))), .val (.int (p2 &&& (2147483647 : Int32))), .val (.int cp), .val (.int (4 : Int32)), .val (.int ov), .val (.int fb), .val (.ref ob1), .val (.int (4 : Int32)), .val (.int b0), .val (.int c1), .val (.int c2), .val (.int c3), .unset, .unset] [(.int (3 : Int32)), (.int (4 : Int32))])) t₀
        refine XS.icmpYes X41.here hx rfl (pc0 := 324) (pc' := 398) rfl (hb hby at_324) rfl (feq (by decide : ¬ ((4 : Int32) = (3 : Int32)))).2 (by decide) (by decide) ?_
        show Steps p.tables e below (T41.setTop (mkF m 398 #[.val (.int p1), .val (.int p2), .val (.int p3), .val (.int p4), .val (.int (p1 &&& (3 : Int32))), .val (.int (p2 &&& (2147483647 : Int32))), .val (.int cp), .val (.int (4 : Int32)), .val (.int ov), .val (.int fb), .val (.ref ob1), .val (.int (4 : Int32)), .val (.int b0), .val (.int c1), .val (.int c2), .val (.int c3), .unset, .unset] [])) t₀
        refine XS.iload X41.here hx rfl (hb hby at_398) rfl ?_
        show Steps p.tables e below (T41.setTop (mkF m 400 #[.val (.int p1), .val (.int p2), .val (.int p3), .val (.int p4), .val (.int (p1 &&& (3 : Int32))), .val (.int (p2 &&& (2147483647 : Int32))), .val (.int cp), .val (.int (4 : Int32)), .val (.int ov), .val (.int fb), .val (.ref ob1), .val (.int (4 : Int32)), .val (.int b0), .val (.int c1), .val (.int c2), .val (.int c3), .unset, .unset] [(.int b0)])) t₀
        refine XS.sipush X41.here hx rfl (hb hby at_400) ?_
        show Steps p.tables e below (T41.setTop (mkF m 403 #[.val (.int p1), .val (.int p2), .val (.int p3), .val (.int p4), .val (.int (p1 &&& (3 : Int32))), .val (.int (p2 &&& (2147483647 : Int32))), .val (.int cp), .val (.int (4 : Int32)), .val (.int ov), .val (.int fb), .val (.ref ob1), .val (.int (4 : Int32)), .val (.int b0), .val (.int c1), .val (.int c2), .val (.int c3), .unset, .unset] [(.int (248 : Int32)), (.int b0)])) t₀
        refine XS.iand X41.here hx rfl (hb hby at_403) rfl ?_
        show Steps p.tables e below (T41.setTop (mkF m 404 #[.val (.int p1), .val (.int p2), .val (.int p3), .val (.int p4), .val (.int (p1 &&& (3 : Int32))), .val (.int (p2 &&& (2147483647 : Int32))), .val (.int cp), .val (.int (4 : Int32)), .val (.int ov), .val (.int fb), .val (.ref ob1), .val (.int (4 : Int32)), .val (.int b0), .val (.int c1), .val (.int c2), .val (.int c3), .unset, .unset] [(.int (b0 &&& (248 : Int32)))])) t₀
        refine XS.sipush X41.here hx rfl (hb hby at_404) ?_
        show Steps p.tables e below (T41.setTop (mkF m 407 #[.val (.int p1), .val (.int p2), .val (.int p3), .val (.int p4), .val (.int (p1 &&& (3 : Int32))), .val (.int (p2 &&& (2147483647 : Int32))), .val (.int cp), .val (.int (4 : Int32)), .val (.int ov), .val (.int fb), .val (.ref ob1), .val (.int (4 : Int32)), .val (.int b0), .val (.int c1), .val (.int c2), .val (.int c3), .unset, .unset] [(.int (240 : Int32)), (.int (b0 &&& (248 : Int32)))])) t₀
        refine XS.icmpNo X41.here hx rfl (hb hby at_407) rfl (teq (own_248 (by omega) (by omega))).2 ?_
        show Steps p.tables e below (T41.setTop (mkF m 410 #[.val (.int p1), .val (.int p2), .val (.int p3), .val (.int p4), .val (.int (p1 &&& (3 : Int32))), .val (.int (p2 &&& (2147483647 : Int32))), .val (.int cp), .val (.int (4 : Int32)), .val (.int ov), .val (.int fb), .val (.ref ob1), .val (.int (4 : Int32)), .val (.int b0), .val (.int c1), .val (.int c2), .val (.int c3), .unset, .unset] [])) t₀
        refine XS.iload X41.here hx rfl (hb hby at_410) rfl ?_
        show Steps p.tables e below (T41.setTop (mkF m 412 #[.val (.int p1), .val (.int p2), .val (.int p3), .val (.int p4), .val (.int (p1 &&& (3 : Int32))), .val (.int (p2 &&& (2147483647 : Int32))), .val (.int cp), .val (.int (4 : Int32)), .val (.int ov), .val (.int fb), .val (.ref ob1), .val (.int (4 : Int32)), .val (.int b0), .val (.int c1), .val (.int c2), .val (.int c3), .unset, .unset] [(.int c1)])) t₀
        refine XS.sipush X41.here hx rfl (hb hby at_412) ?_
        show Steps p.tables e below (T41.setTop (mkF m 415 #[.val (.int p1), .val (.int p2), .val (.int p3), .val (.int p4), .val (.int (p1 &&& (3 : Int32))), .val (.int (p2 &&& (2147483647 : Int32))), .val (.int cp), .val (.int (4 : Int32)), .val (.int ov), .val (.int fb), .val (.ref ob1), .val (.int (4 : Int32)), .val (.int b0), .val (.int c1), .val (.int c2), .val (.int c3), .unset, .unset] [(.int (192 : Int32)), (.int c1)])) t₀
        refine XS.iand X41.here hx rfl (hb hby at_415) rfl ?_
        show Steps p.tables e below (T41.setTop (mkF m 416 #[.val (.int p1), .val (.int p2), .val (.int p3), .val (.int p4), .val (.int (p1 &&& (3 : Int32))), .val (.int (p2 &&& (2147483647 : Int32))), .val (.int cp), .val (.int (4 : Int32)), .val (.int ov), .val (.int fb), .val (.ref ob1), .val (.int (4 : Int32)), .val (.int b0), .val (.int c1), .val (.int c2), .val (.int c3), .unset, .unset] [(.int (c1 &&& (192 : Int32)))])) t₀
        refine XS.sipush X41.here hx rfl (hb hby at_416) ?_
        show Steps p.tables e below (T41.setTop (mkF m 419 #[.val (.int p1), .val (.int p2), .val (.int p3), .val (.int p4), .val (.int (p1 &&& (3 : Int32))), .val (.int (p2 &&& (2147483647 : Int32))), .val (.int cp), .val (.int (4 : Int32)), .val (.int ov), .val (.int fb), .val (.ref ob1), .val (.int (4 : Int32)), .val (.int b0), .val (.int c1), .val (.int c2), .val (.int c3), .unset, .unset] [(.int (128 : Int32)), (.int (c1 &&& (192 : Int32)))])) t₀
        refine XS.icmpNo X41.here hx rfl (hb hby at_419) rfl (teq (own_192 (by omega) (by omega))).2 ?_
        show Steps p.tables e below (T41.setTop (mkF m 422 #[.val (.int p1), .val (.int p2), .val (.int p3), .val (.int p4), .val (.int (p1 &&& (3 : Int32))), .val (.int (p2 &&& (2147483647 : Int32))), .val (.int cp), .val (.int (4 : Int32)), .val (.int ov), .val (.int fb), .val (.ref ob1), .val (.int (4 : Int32)), .val (.int b0), .val (.int c1), .val (.int c2), .val (.int c3), .unset, .unset] [])) t₀
        refine XS.iload X41.here hx rfl (hb hby at_422) rfl ?_
        show Steps p.tables e below (T41.setTop (mkF m 424 #[.val (.int p1), .val (.int p2), .val (.int p3), .val (.int p4), .val (.int (p1 &&& (3 : Int32))), .val (.int (p2 &&& (2147483647 : Int32))), .val (.int cp), .val (.int (4 : Int32)), .val (.int ov), .val (.int fb), .val (.ref ob1), .val (.int (4 : Int32)), .val (.int b0), .val (.int c1), .val (.int c2), .val (.int c3), .unset, .unset] [(.int c2)])) t₀
        refine XS.sipush X41.here hx rfl (hb hby at_424) ?_
        show Steps p.tables e below (T41.setTop (mkF m 427 #[.val (.int p1), .val (.int p2), .val (.int p3), .val (.int p4), .val (.int (p1 &&& (3 : Int32))), .val (.int (p2 &&& (2147483647 : Int32))), .val (.int cp), .val (.int (4 : Int32)), .val (.int ov), .val (.int fb), .val (.ref ob1), .val (.int (4 : Int32)), .val (.int b0), .val (.int c1), .val (.int c2), .val (.int c3), .unset, .unset] [(.int (192 : Int32)), (.int c2)])) t₀
        refine XS.iand X41.here hx rfl (hb hby at_427) rfl ?_
        show Steps p.tables e below (T41.setTop (mkF m 428 #[.val (.int p1), .val (.int p2), .val (.int p3), .val (.int p4), .val (.int (p1 &&& (3 : Int32))), .val (.int (p2 &&& (2147483647 : Int32))), .val (.int cp), .val (.int (4 : Int32)), .val (.int ov), .val (.int fb), .val (.ref ob1), .val (.int (4 : Int32)), .val (.int b0), .val (.int c1), .val (.int c2), .val (.int c3), .unset, .unset] [(.int (c2 &&& (192 : Int32)))])) t₀
        refine XS.sipush X41.here hx rfl (hb hby at_428) ?_
        show Steps p.tables e below (T41.setTop (mkF m 431 #[.val (.int p1), .val (.int p2), .val (.int p3), .val (.int p4), .val (.int (p1 &&& (3 : Int32))), .val (.int (p2 &&& (2147483647 : Int32))), .val (.int cp), .val (.int (4 : Int32)), .val (.int ov), .val (.int fb), .val (.ref ob1), .val (.int (4 : Int32)), .val (.int b0), .val (.int c1), .val (.int c2), .val (.int c3), .unset, .unset] [(.int (128 : Int32)), (.int (c2 &&& (192 : Int32)))])) t₀
        refine XS.icmpNo X41.here hx rfl (hb hby at_431) rfl (teq (own_192 (by omega) (by omega))).2 ?_
        show Steps p.tables e below (T41.setTop (mkF m 434 #[.val (.int p1), .val (.int p2), .val (.int p3), .val (.int p4), .val (.int (p1 &&& (3 : Int32))), .val (.int (p2 &&& (2147483647 : Int32))), .val (.int cp), .val (.int (4 : Int32)), .val (.int ov), .val (.int fb), .val (.ref ob1), .val (.int (4 : Int32)), .val (.int b0), .val (.int c1), .val (.int c2), .val (.int c3), .unset, .unset] [])) t₀
        refine XS.iload X41.here hx rfl (hb hby at_434) rfl ?_
        show Steps p.tables e below (T41.setTop (mkF m 436 #[.val (.int p1), .val (.int p2), .val (.int p3), .val (.int p4), .val (.int (p1 &&& (3 : Int32))), .val (.int (p2 &&& (2147483647 : Int32))), .val (.int cp), .val (.int (4 : Int32)), .val (.int ov), .val (.int fb), .val (.ref ob1), .val (.int (4 : Int32)), .val (.int b0), .val (.int c1), .val (.int c2), .val (.int c3), .unset, .unset] [(.int c3)])) t₀
        refine XS.sipush X41.here hx rfl (hb hby at_436) ?_
        show Steps p.tables e below (T41.setTop (mkF m 439 #[.val (.int p1), .val (.int p2), .val (.int p3), .val (.int p4), .val (.int (p1 &&& (3 : Int32))), .val (.int (p2 &&& (2147483647 : Int32))), .val (.int cp), .val (.int (4 : Int32)), .val (.int ov), .val (.int fb), .val (.ref ob1), .val (.int (4 : Int32)), .val (.int b0), .val (.int c1), .val (.int c2), .val (.int c3), .unset, .unset] [(.int (192 : Int32)), (.int c3)])) t₀
        refine XS.iand X41.here hx rfl (hb hby at_439) rfl ?_
        show Steps p.tables e below (T41.setTop (mkF m 440 #[.val (.int p1), .val (.int p2), .val (.int p3), .val (.int p4), .val (.int (p1 &&& (3 : Int32))), .val (.int (p2 &&& (2147483647 : Int32))), .val (.int cp), .val (.int (4 : Int32)), .val (.int ov), .val (.int fb), .val (.ref ob1), .val (.int (4 : Int32)), .val (.int b0), .val (.int c1), .val (.int c2), .val (.int c3), .unset, .unset] [(.int (c3 &&& (192 : Int32)))])) t₀
        refine XS.sipush X41.here hx rfl (hb hby at_440) ?_
        show Steps p.tables e below (T41.setTop (mkF m 443 #[.val (.int p1), .val (.int p2), .val (.int p3), .val (.int p4), .val (.int (p1 &&& (3 : Int32))), .val (.int (p2 &&& (2147483647 : Int32))), .val (.int cp), .val (.int (4 : Int32)), .val (.int ov), .val (.int fb), .val (.ref ob1), .val (.int (4 : Int32)), .val (.int b0), .val (.int c1), .val (.int c2), .val (.int c3), .unset, .unset] [(.int (128 : Int32)), (.int (c3 &&& (192 : Int32)))])) t₀
        refine XS.icmpNo X41.here hx rfl (hb hby at_443) rfl (teq (own_192 (by omega) (by omega))).2 ?_
        show Steps p.tables e below (T41.setTop (mkF m 446 #[.val (.int p1), .val (.int p2), .val (.int p3), .val (.int p4), .val (.int (p1 &&& (3 : Int32))), .val (.int (p2 &&& (2147483647 : Int32))), .val (.int cp), .val (.int (4 : Int32)), .val (.int ov), .val (.int fb), .val (.ref ob1), .val (.int (4 : Int32)), .val (.int b0), .val (.int c1), .val (.int c2), .val (.int c3), .unset, .unset] [])) t₀
        refine XS.iconst X41.here hx rfl (hb hby at_446) ?_
        show Steps p.tables e below (T41.setTop (mkF m 447 #[.val (.int p1), .val (.int p2), .val (.int p3), .val (.int p4), .val (.int (p1 &&& (3 : Int32))), .val (.int (p2 &&& (2147483647 : Int32))), .val (.int cp), .val (.int (4 : Int32)), .val (.int ov), .val (.int fb), .val (.ref ob1), .val (.int (4 : Int32)), .val (.int b0), .val (.int c1), .val (.int c2), .val (.int c3), .unset, .unset] [(.int (1 : Int32))])) t₀
        refine XS.goto X41.here hx rfl (pc0 := 447) (pc' := 451) rfl (hb hby at_447) (by decide) (by decide) ?_
        show Steps p.tables e below (T41.setTop (mkF m 451 #[.val (.int p1), .val (.int p2), .val (.int p3), .val (.int p4), .val (.int (p1 &&& (3 : Int32))), .val (.int (p2 &&& (2147483647 : Int32))), .val (.int cp), .val (.int (4 : Int32)), .val (.int ov), .val (.int fb), .val (.ref ob1), .val (.int (4 : Int32)), .val (.int b0), .val (.int c1), .val (.int c2), .val (.int c3), .unset, .unset] [(.int (1 : Int32))])) t₀
        refine XS.istore X41.here hx rfl (hb hby at_451) rfl (l' := #[.val (.int p1), .val (.int p2), .val (.int p3), .val (.int p4), .val (.int (p1 &&& (3 : Int32))), .val (.int (p2 &&& (2147483647 : Int32))), .val (.int cp), .val (.int (4 : Int32)), .val (.int ov), .val (.int fb), .val (.ref ob1), .val (.int (4 : Int32)), .val (.int b0), .val (.int c1), .val (.int c2), .val (.int c3), .val (.int (1 : Int32)), .unset]) rfl ?_
        show Steps p.tables e below (T41.setTop (mkF m 453 #[.val (.int p1), .val (.int p2), .val (.int p3), .val (.int p4), .val (.int (p1 &&& (3 : Int32))), .val (.int (p2 &&& (2147483647 : Int32))), .val (.int cp), .val (.int (4 : Int32)), .val (.int ov), .val (.int fb), .val (.ref ob1), .val (.int (4 : Int32)), .val (.int b0), .val (.int c1), .val (.int c2), .val (.int c3), .val (.int (1 : Int32)), .unset] [])) t₀
        refine XS.iload X41.here hx rfl (hb hby at_453) rfl ?_
        show Steps p.tables e below (T41.setTop (mkF m 455 #[.val (.int p1), .val (.int p2), .val (.int p3), .val (.int p4), .val (.int (p1 &&& (3 : Int32))), .val (.int (p2 &&& (2147483647 : Int32))), .val (.int cp), .val (.int (4 : Int32)), .val (.int ov), .val (.int fb), .val (.ref ob1), .val (.int (4 : Int32)), .val (.int b0), .val (.int c1), .val (.int c2), .val (.int c3), .val (.int (1 : Int32)), .unset] [(.int b0)])) t₀
        refine XS.bipush X41.here hx rfl (hb hby at_455) ?_
        show Steps p.tables e below (T41.setTop (mkF m 457 #[.val (.int p1), .val (.int p2), .val (.int p3), .val (.int p4), .val (.int (p1 &&& (3 : Int32))), .val (.int (p2 &&& (2147483647 : Int32))), .val (.int cp), .val (.int (4 : Int32)), .val (.int ov), .val (.int fb), .val (.ref ob1), .val (.int (4 : Int32)), .val (.int b0), .val (.int c1), .val (.int c2), .val (.int c3), .val (.int (1 : Int32)), .unset] [(.int (7 : Int32)), (.int b0)])) t₀
        refine XS.iand X41.here hx rfl (hb hby at_457) rfl ?_
        show Steps p.tables e below (T41.setTop (mkF m 458 #[.val (.int p1), .val (.int p2), .val (.int p3), .val (.int p4), .val (.int (p1 &&& (3 : Int32))), .val (.int (p2 &&& (2147483647 : Int32))), .val (.int cp), .val (.int (4 : Int32)), .val (.int ov), .val (.int fb), .val (.ref ob1), .val (.int (4 : Int32)), .val (.int b0), .val (.int c1), .val (.int c2), .val (.int c3), .val (.int (1 : Int32)), .unset] [(.int (b0 &&& (7 : Int32)))])) t₀
        refine XS.bipush X41.here hx rfl (hb hby at_458) ?_
        show Steps p.tables e below (T41.setTop (mkF m 460 #[.val (.int p1), .val (.int p2), .val (.int p3), .val (.int p4), .val (.int (p1 &&& (3 : Int32))), .val (.int (p2 &&& (2147483647 : Int32))), .val (.int cp), .val (.int (4 : Int32)), .val (.int ov), .val (.int fb), .val (.ref ob1), .val (.int (4 : Int32)), .val (.int b0), .val (.int c1), .val (.int c2), .val (.int c3), .val (.int (1 : Int32)), .unset] [(.int (18 : Int32)), (.int (b0 &&& (7 : Int32)))])) t₀
        refine XS.ishl X41.here hx rfl (hb hby at_460) rfl ?_
        show Steps p.tables e below (T41.setTop (mkF m 461 #[.val (.int p1), .val (.int p2), .val (.int p3), .val (.int p4), .val (.int (p1 &&& (3 : Int32))), .val (.int (p2 &&& (2147483647 : Int32))), .val (.int cp), .val (.int (4 : Int32)), .val (.int ov), .val (.int fb), .val (.ref ob1), .val (.int (4 : Int32)), .val (.int b0), .val (.int c1), .val (.int c2), .val (.int c3), .val (.int (1 : Int32)), .unset] [(.int ((b0 &&& (7 : Int32)) <<< ((18 : Int32) &&& 31)))])) t₀
        refine XS.iload X41.here hx rfl (hb hby at_461) rfl ?_
        show Steps p.tables e below (T41.setTop (mkF m 463 #[.val (.int p1), .val (.int p2), .val (.int p3), .val (.int p4), .val (.int (p1 &&& (3 : Int32))), .val (.int (p2 &&& (2147483647 : Int32))), .val (.int cp), .val (.int (4 : Int32)), .val (.int ov), .val (.int fb), .val (.ref ob1), .val (.int (4 : Int32)), .val (.int b0), .val (.int c1), .val (.int c2), .val (.int c3), .val (.int (1 : Int32)), .unset] [(.int c1), (.int ((b0 &&& (7 : Int32)) <<< ((18 : Int32) &&& 31)))])) t₀
        refine XS.bipush X41.here hx rfl (hb hby at_463) ?_
        show Steps p.tables e below (T41.setTop (mkF m 465 #[.val (.int p1), .val (.int p2), .val (.int p3), .val (.int p4), .val (.int (p1 &&& (3 : Int32))), .val (.int (p2 &&& (2147483647 : Int32))), .val (.int cp), .val (.int (4 : Int32)), .val (.int ov), .val (.int fb), .val (.ref ob1), .val (.int (4 : Int32)), .val (.int b0), .val (.int c1), .val (.int c2), .val (.int c3), .val (.int (1 : Int32)), .unset] [(.int (63 : Int32)), (.int c1), (.int ((b0 &&& (7 : Int32)) <<< ((18 : Int32) &&& 31)))])) t₀
        refine XS.iand X41.here hx rfl (hb hby at_465) rfl ?_
        show Steps p.tables e below (T41.setTop (mkF m 466 #[.val (.int p1), .val (.int p2), .val (.int p3), .val (.int p4), .val (.int (p1 &&& (3 : Int32))), .val (.int (p2 &&& (2147483647 : Int32))), .val (.int cp), .val (.int (4 : Int32)), .val (.int ov), .val (.int fb), .val (.ref ob1), .val (.int (4 : Int32)), .val (.int b0), .val (.int c1), .val (.int c2), .val (.int c3), .val (.int (1 : Int32)), .unset] [(.int (c1 &&& (63 : Int32))), (.int ((b0 &&& (7 : Int32)) <<< ((18 : Int32) &&& 31)))])) t₀
        refine XS.bipush X41.here hx rfl (hb hby at_466) ?_
        show Steps p.tables e below (T41.setTop (mkF m 468 #[.val (.int p1), .val (.int p2), .val (.int p3), .val (.int p4), .val (.int (p1 &&& (3 : Int32))), .val (.int (p2 &&& (2147483647 : Int32))), .val (.int cp), .val (.int (4 : Int32)), .val (.int ov), .val (.int fb), .val (.ref ob1), .val (.int (4 : Int32)), .val (.int b0), .val (.int c1), .val (.int c2), .val (.int c3), .val (.int (1 : Int32)), .unset] [(.int (12 : Int32)), (.int (c1 &&& (63 : Int32))), (.int ((b0 &&& (7 : Int32)) <<< ((18 : Int32) &&& 31)))])) t₀
        refine XS.ishl X41.here hx rfl (hb hby at_468) rfl ?_
        show Steps p.tables e below (T41.setTop (mkF m 469 #[.val (.int p1), .val (.int p2), .val (.int p3), .val (.int p4), .val (.int (p1 &&& (3 : Int32))), .val (.int (p2 &&& (2147483647 : Int32))), .val (.int cp), .val (.int (4 : Int32)), .val (.int ov), .val (.int fb), .val (.ref ob1), .val (.int (4 : Int32)), .val (.int b0), .val (.int c1), .val (.int c2), .val (.int c3), .val (.int (1 : Int32)), .unset] [(.int ((c1 &&& (63 : Int32)) <<< ((12 : Int32) &&& 31))), (.int ((b0 &&& (7 : Int32)) <<< ((18 : Int32) &&& 31)))])) t₀
        refine XS.ior X41.here hx rfl (hb hby at_469) rfl ?_
        show Steps p.tables e below (T41.setTop (mkF m 470 #[.val (.int p1), .val (.int p2), .val (.int p3), .val (.int p4), .val (.int (p1 &&& (3 : Int32))), .val (.int (p2 &&& (2147483647 : Int32))), .val (.int cp), .val (.int (4 : Int32)), .val (.int ov), .val (.int fb), .val (.ref ob1), .val (.int (4 : Int32)), .val (.int b0), .val (.int c1), .val (.int c2), .val (.int c3), .val (.int (1 : Int32)), .unset] [(.int (((b0 &&& (7 : Int32)) <<< ((18 : Int32) &&& 31)) ||| ((c1 &&& (63 : Int32)) <<< ((12 : Int32) &&& 31))))])) t₀
        refine XS.iload X41.here hx rfl (hb hby at_470) rfl ?_
        show Steps p.tables e below (T41.setTop (mkF m 472 #[.val (.int p1), .val (.int p2), .val (.int p3), .val (.int p4), .val (.int (p1 &&& (3 : Int32))), .val (.int (p2 &&& (2147483647 : Int32))), .val (.int cp), .val (.int (4 : Int32)), .val (.int ov), .val (.int fb), .val (.ref ob1), .val (.int (4 : Int32)), .val (.int b0), .val (.int c1), .val (.int c2), .val (.int c3), .val (.int (1 : Int32)), .unset] [(.int c2), (.int (((b0 &&& (7 : Int32)) <<< ((18 : Int32) &&& 31)) ||| ((c1 &&& (63 : Int32)) <<< ((12 : Int32) &&& 31))))])) t₀
        refine XS.bipush X41.here hx rfl (hb hby at_472) ?_
        show Steps p.tables e below (T41.setTop (mkF m 474 #[.val (.int p1), .val (.int p2), .val (.int p3), .val (.int p4), .val (.int (p1 &&& (3 : Int32))), .val (.int (p2 &&& (2147483647 : Int32))), .val (.int cp), .val (.int (4 : Int32)), .val (.int ov), .val (.int fb), .val (.ref ob1), .val (.int (4 : Int32)), .val (.int b0), .val (.int c1), .val (.int c2), .val (.int c3), .val (.int (1 : Int32)), .unset] [(.int (63 : Int32)), (.int c2), (.int (((b0 &&& (7 : Int32)) <<< ((18 : Int32) &&& 31)) ||| ((c1 &&& (63 : Int32)) <<< ((12 : Int32) &&& 31))))])) t₀
        refine XS.iand X41.here hx rfl (hb hby at_474) rfl ?_
        show Steps p.tables e below (T41.setTop (mkF m 475 #[.val (.int p1), .val (.int p2), .val (.int p3), .val (.int p4), .val (.int (p1 &&& (3 : Int32))), .val (.int (p2 &&& (2147483647 : Int32))), .val (.int cp), .val (.int (4 : Int32)), .val (.int ov), .val (.int fb), .val (.ref ob1), .val (.int (4 : Int32)), .val (.int b0), .val (.int c1), .val (.int c2), .val (.int c3), .val (.int (1 : Int32)), .unset] [(.int (c2 &&& (63 : Int32))), (.int (((b0 &&& (7 : Int32)) <<< ((18 : Int32) &&& 31)) ||| ((c1 &&& (63 : Int32)) <<< ((12 : Int32) &&& 31))))])) t₀
        refine XS.bipush X41.here hx rfl (hb hby at_475) ?_
        show Steps p.tables e below (T41.setTop (mkF m 477 #[.val (.int p1), .val (.int p2), .val (.int p3), .val (.int p4), .val (.int (p1 &&& (3 : Int32))), .val (.int (p2 &&& (2147483647 : Int32))), .val (.int cp), .val (.int (4 : Int32)), .val (.int ov), .val (.int fb), .val (.ref ob1), .val (.int (4 : Int32)), .val (.int b0), .val (.int c1), .val (.int c2), .val (.int c3), .val (.int (1 : Int32)), .unset] [(.int (6 : Int32)), (.int (c2 &&& (63 : Int32))), (.int (((b0 &&& (7 : Int32)) <<< ((18 : Int32) &&& 31)) ||| ((c1 &&& (63 : Int32)) <<< ((12 : Int32) &&& 31))))])) t₀
        refine XS.ishl X41.here hx rfl (hb hby at_477) rfl ?_
        show Steps p.tables e below (T41.setTop (mkF m 478 #[.val (.int p1), .val (.int p2), .val (.int p3), .val (.int p4), .val (.int (p1 &&& (3 : Int32))), .val (.int (p2 &&& (2147483647 : Int32))), .val (.int cp), .val (.int (4 : Int32)), .val (.int ov), .val (.int fb), .val (.ref ob1), .val (.int (4 : Int32)), .val (.int b0), .val (.int c1), .val (.int c2), .val (.int c3), .val (.int (1 : Int32)), .unset] [(.int ((c2 &&& (63 : Int32)) <<< ((6 : Int32) &&& 31))), (.int (((b0 &&& (7 : Int32)) <<< ((18 : Int32) &&& 31)) ||| ((c1 &&& (63 : Int32)) <<< ((12 : Int32) &&& 31))))])) t₀
        refine XS.ior X41.here hx rfl (hb hby at_478) rfl ?_
        show Steps p.tables e below (T41.setTop (mkF m 479 #[.val (.int p1), .val (.int p2), .val (.int p3), .val (.int p4), .val (.int (p1 &&& (3 : Int32))), .val (.int (p2 &&& (2147483647 : Int32))), .val (.int cp), .val (.int (4 : Int32)), .val (.int ov), .val (.int fb), .val (.ref ob1), .val (.int (4 : Int32)), .val (.int b0), .val (.int c1), .val (.int c2), .val (.int c3), .val (.int (1 : Int32)), .unset] [(.int ((((b0 &&& (7 : Int32)) <<< ((18 : Int32) &&& 31)) ||| ((c1 &&& (63 : Int32)) <<< ((12 : Int32) &&& 31))) ||| ((c2 &&& (63 : Int32)) <<< ((6 : Int32) &&& 31))))])) t₀
        refine XS.iload X41.here hx rfl (hb hby at_479) rfl ?_
        show Steps p.tables e below (T41.setTop (mkF m 481 #[.val (.int p1), .val (.int p2), .val (.int p3), .val (.int p4), .val (.int (p1 &&& (3 : Int32))), .val (.int (p2 &&& (2147483647 : Int32))), .val (.int cp), .val (.int (4 : Int32)), .val (.int ov), .val (.int fb), .val (.ref ob1), .val (.int (4 : Int32)), .val (.int b0), .val (.int c1), .val (.int c2), .val (.int c3), .val (.int (1 : Int32)), .unset] [(.int c3), (.int ((((b0 &&& (7 : Int32)) <<< ((18 : Int32) &&& 31)) ||| ((c1 &&& (63 : Int32)) <<< ((12 : Int32) &&& 31))) ||| ((c2 &&& (63 : Int32)) <<< ((6 : Int32) &&& 31))))])) t₀
        refine XS.bipush X41.here hx rfl (hb hby at_481) ?_
        show Steps p.tables e below (T41.setTop (mkF m 483 #[.val (.int p1), .val (.int p2), .val (.int p3), .val (.int p4), .val (.int (p1 &&& (3 : Int32))), .val (.int (p2 &&& (2147483647 : Int32))), .val (.int cp), .val (.int (4 : Int32)), .val (.int ov), .val (.int fb), .val (.ref ob1), .val (.int (4 : Int32)), .val (.int b0), .val (.int c1), .val (.int c2), .val (.int c3), .val (.int (1 : Int32)), .unset] [(.int (63 : Int32)), (.int c3), (.int ((((b0 &&& (7 : Int32)) <<< ((18 : Int32) &&& 31)) ||| ((c1 &&& (63 : Int32)) <<< ((12 : Int32) &&& 31))) ||| ((c2 &&& (63 : Int32)) <<< ((6 : Int32) &&& 31))))])) t₀
        refine XS.iand X41.here hx rfl (hb hby at_483) rfl ?_
        show Steps p.tables e below (T41.setTop (mkF m 484 #[.val (.int p1), .val (.int p2), .val (.int p3), .val (.int p4), .val (.int (p1 &&& (3 : Int32))), .val (.int (p2 &&& (2147483647 : Int32))), .val (.int cp), .val (.int (4 : Int32)), .val (.int ov), .val (.int fb), .val (.ref ob1), .val (.int (4 : Int32)), .val (.int b0), .val (.int c1), .val (.int c2), .val (.int c3), .val (.int (1 : Int32)), .unset] [(.int (c3 &&& (63 : Int32))), (.int ((((b0 &&& (7 : Int32)) <<< ((18 : Int32) &&& 31)) ||| ((c1 &&& (63 : Int32)) <<< ((12 : Int32) &&& 31))) ||| ((c2 &&& (63 : Int32)) <<< ((6 : Int32) &&& 31))))])) t₀
        refine XS.ior X41.here hx rfl (hb hby at_484) rfl ?_
        show Steps p.tables e below (T41.setTop (mkF m 485 #[.val (.int p1), .val (.int p2), .val (.int p3), .val (.int p4), .val (.int (p1 &&& (3 : Int32))), .val (.int (p2 &&& (2147483647 : Int32))), .val (.int cp), .val (.int (4 : Int32)), .val (.int ov), .val (.int fb), .val (.ref ob1), .val (.int (4 : Int32)), .val (.int b0), .val (.int c1), .val (.int c2), .val (.int c3), .val (.int (1 : Int32)), .unset] [(.int (((((b0 &&& (7 : Int32)) <<< ((18 : Int32) &&& 31)) ||| ((c1 &&& (63 : Int32)) <<< ((12 : Int32) &&& 31))) ||| ((c2 &&& (63 : Int32)) <<< ((6 : Int32) &&& 31))) ||| (c3 &&& (63 : Int32))))])) t₀
        refine XS.istore X41.here hx rfl (hb hby at_485) rfl (l' := #[.val (.int p1), .val (.int p2), .val (.int p3), .val (.int p4), .val (.int (p1 &&& (3 : Int32))), .val (.int (p2 &&& (2147483647 : Int32))), .val (.int cp), .val (.int (4 : Int32)), .val (.int ov), .val (.int fb), .val (.ref ob1), .val (.int (4 : Int32)), .val (.int b0), .val (.int c1), .val (.int c2), .val (.int c3), .val (.int (1 : Int32)), .val (.int (((((b0 &&& (7 : Int32)) <<< ((18 : Int32) &&& 31)) ||| ((c1 &&& (63 : Int32)) <<< ((12 : Int32) &&& 31))) ||| ((c2 &&& (63 : Int32)) <<< ((6 : Int32) &&& 31))) ||| (c3 &&& (63 : Int32))))]) rfl ?_
        show Steps p.tables e below (T41.setTop (mkF m 487 #[.val (.int p1), .val (.int p2), .val (.int p3), .val (.int p4), .val (.int (p1 &&& (3 : Int32))), .val (.int (p2 &&& (2147483647 : Int32))), .val (.int cp), .val (.int (4 : Int32)), .val (.int ov), .val (.int fb), .val (.ref ob1), .val (.int (4 : Int32)), .val (.int b0), .val (.int c1), .val (.int c2), .val (.int c3), .val (.int (1 : Int32)), .val (.int (((((b0 &&& (7 : Int32)) <<< ((18 : Int32) &&& 31)) ||| ((c1 &&& (63 : Int32)) <<< ((12 : Int32) &&& 31))) ||| ((c2 &&& (63 : Int32)) <<< ((6 : Int32) &&& 31))) ||| (c3 &&& (63 : Int32))))] [])) t₀
        refine XS.iload X41.here hx rfl (hb hby at_487) rfl ?_
        show Steps p.tables e below (T41.setTop (mkF m 489 #[.val (.int p1), .val (.int p2), .val (.int p3), .val (.int p4), .val (.int (p1 &&& (3 : Int32))), .val (.int (p2 &&& (2147483647 : Int32))), .val (.int cp), .val (.int (4 : Int32)), .val (.int ov), .val (.int fb), .val (.ref ob1), .val (.int (4 : Int32)), .val (.int b0), .val (.int c1), .val (.int c2), .val (.int c3), .val (.int (1 : Int32)), .val (.int (((((b0 &&& (7 : Int32)) <<< ((18 : Int32) &&& 31)) ||| ((c1 &&& (63 : Int32)) <<< ((12 : Int32) &&& 31))) ||| ((c2 &&& (63 : Int32)) <<< ((6 : Int32) &&& 31))) ||| (c3 &&& (63 : Int32))))] [(.int (1 : Int32))])) t₀
        refine XS.ifNo X41.here hx rfl (hb hby at_489) rfl ((if0 _ _).trans (feq (by decide : ¬ ((1 : Int32) = (0 : Int32)))).1) ?_
        show Steps p.tables e below (T41.setTop (mkF m 492 #[.val (.int p1), .val (.int p2), .val (.int p3), .val (.int p4), .val (.int (p1 &&& (3 : Int32))), .val (.int (p2 &&& (2147483647 : Int32))), .val (.int cp), .val (.int (4 : Int32)), .val (.int ov), .val (.int fb), .val (.ref ob1), .val (.int (4 : Int32)), .val (.int b0), .val (.int c1), .val (.int c2), .val (.int c3), .val (.int (1 : Int32)), .val (.int (((((b0 &&& (7 : Int32)) <<< ((18 : Int32) &&& 31)) ||| ((c1 &&& (63 : Int32)) <<< ((12 : Int32) &&& 31))) ||| ((c2 &&& (63 : Int32)) <<< ((6 : Int32) &&& 31))) ||| (c3 &&& (63 : Int32))))] [])) t₀
        refine XS.iload X41.here hx rfl (hb hby at_492) rfl ?_
        show Steps p.tables e below (T41.setTop (mkF m 494 #[.val (.int p1), .val (.int p2), .val (.int p3), .val (.int p4), .val (.int (p1 &&& (3 : Int32))), .val (.int (p2 &&& (2147483647 : Int32))), .val (.int cp), .val (.int (4 : Int32)), .val (.int ov), .val (.int fb), .val (.ref ob1), .val (.int (4 : Int32)), .val (.int b0), .val (.int c1), .val (.int c2), .val (.int c3), .val (.int (1 : Int32)), .val (.int (((((b0 &&& (7 : Int32)) <<< ((18 : Int32) &&& 31)) ||| ((c1 &&& (63 : Int32)) <<< ((12 : Int32) &&& 31))) ||| ((c2 &&& (63 : Int32)) <<< ((6 : Int32) &&& 31))) ||| (c3 &&& (63 : Int32))))] [(.int (((((b0 &&& (7 : Int32)) <<< ((18 : Int32) &&& 31)) ||| ((c1 &&& (63 : Int32)) <<< ((12 : Int32) &&& 31))) ||| ((c2 &&& (63 : Int32)) <<< ((6 : Int32) &&& 31))) ||| (c3 &&& (63 : Int32))))])) t₀
        refine XS.iload X41.here hx rfl (hb hby at_494) rfl ?_
        show Steps p.tables e below (T41.setTop (mkF m 496 #[.val (.int p1), .val (.int p2), .val (.int p3), .val (.int p4), .val (.int (p1 &&& (3 : Int32))), .val (.int (p2 &&& (2147483647 : Int32))), .val (.int cp), .val (.int (4 : Int32)), .val (.int ov), .val (.int fb), .val (.ref ob1), .val (.int (4 : Int32)), .val (.int b0), .val (.int c1), .val (.int c2), .val (.int c3), .val (.int (1 : Int32)), .val (.int (((((b0 &&& (7 : Int32)) <<< ((18 : Int32) &&& 31)) ||| ((c1 &&& (63 : Int32)) <<< ((12 : Int32) &&& 31))) ||| ((c2 &&& (63 : Int32)) <<< ((6 : Int32) &&& 31))) ||| (c3 &&& (63 : Int32))))] [(.int cp), (.int (((((b0 &&& (7 : Int32)) <<< ((18 : Int32) &&& 31)) ||| ((c1 &&& (63 : Int32)) <<< ((12 : Int32) &&& 31))) ||| ((c2 &&& (63 : Int32)) <<< ((6 : Int32) &&& 31))) ||| (c3 &&& (63 : Int32))))])) t₀
        refine XS.icmpYes X41.here hx rfl (pc0 := 496) (pc' := 501) rfl (hb hby at_496) rfl (teq (own_dec4 (by omega) (by omega) (by omega) (by omega) (by omega) (by omega))).1 (by decide) (by decide) ?_
        exact k₀
      exact tlK T41 T41.heap _ X41 rfl N41 z_x41 _ B41 _ _ _ _ _ _ (own_hk (4 : Int32) 4 rfl (by decide) ho1 ho2 hk41)
  refine hG _ (s₁.setTop (mkF m 13 #[.val (.int p1), .val (.int p2), .val (.int p3), .val (.int p4), .val (.int (p1 &&& (3 : Int32))), .val (.int (p2 &&& (2147483647 : Int32))), .unset, .unset, .unset, .unset, .unset, .unset, .unset, .unset, .unset, .unset, .unset, .unset] [(.int (p1 &&& (3 : Int32)))])) (fun t₀ k₀ => ?_) ?_
  · show Steps p.tables e below (s₁.setTop (mkF m 0 #[.val (.int p1), .val (.int p2), .val (.int p3), .val (.int p4), .unset, .unset, .unset, .unset, .unset, .unset, .unset, .unset, .unset, .unset, .unset, .unset, .unset, .unset] [])) t₀
    refine XS.iloadN X0.here hx rfl (hb hby at_0) rfl ?_
    show Steps p.tables e below (s₁.setTop (mkF m 1 #[.val (.int p1), .val (.int p2), .val (.int p3), .val (.int p4), .unset, .unset, .unset, .unset, .unset, .unset, .unset, .unset, .unset, .unset, .unset, .unset, .unset, .unset] [(.int p1)])) t₀
    refine XS.iconst X0.here hx rfl (hb hby at_1) ?_
    show Steps p.tables e below (s₁.setTop (mkF m 2 #[.val (.int p1), .val (.int p2), .val (.int p3), .val (.int p4), .unset, .unset, .unset, .unset, .unset, .unset, .unset, .unset, .unset, .unset, .unset, .unset, .unset, .unset] [(.int (3 : Int32)), (.int p1)])) t₀
    refine XS.iand X0.here hx rfl (hb hby at_2) rfl ?_
    show Steps p.tables e below (s₁.setTop (mkF m 3 #[.val (.int p1), .val (.int p2), .val (.int p3), .val (.int p4), .unset, .unset, .unset, .unset, .unset, .unset, .unset, .unset, .unset, .unset, .unset, .unset, .unset, .unset] [(.int (p1 &&& (3 : Int32)))])) t₀
    refine XS.istore X0.here hx rfl (hb hby at_3) rfl (l' := #[.val (.int p1), .val (.int p2), .val (.int p3), .val (.int p4), .val (.int (p1 &&& (3 : Int32))), .unset, .unset, .unset, .unset, .unset, .unset, .unset, .unset, .unset, .unset, .unset, .unset, .unset]) rfl ?_
    show Steps p.tables e below (s₁.setTop (mkF m 5 #[.val (.int p1), .val (.int p2), .val (.int p3), .val (.int p4), .val (.int (p1 &&& (3 : Int32))), .unset, .unset, .unset, .unset, .unset, .unset, .unset, .unset, .unset, .unset, .unset, .unset, .unset] [])) t₀
    refine XS.iloadN X0.here hx rfl (hb hby at_5) rfl ?_
    show Steps p.tables e below (s₁.setTop (mkF m 6 #[.val (.int p1), .val (.int p2), .val (.int p3), .val (.int p4), .val (.int (p1 &&& (3 : Int32))), .unset, .unset, .unset, .unset, .unset, .unset, .unset, .unset, .unset, .unset, .unset, .unset, .unset] [(.int p2)])) t₀
    refine X0.ldcInt hx hown (mvT hZ (hw _ (List.mem_of_getElem? (i := 0) rfl))) (g := (mkF m 6 #[.val (.int p1), .val (.int p2), .val (.int p3), .val (.int p4), .val (.int (p1 &&& (3 : Int32))), .unset, .unset, .unset, .unset, .unset, .unset, .unset, .unset, .unset, .unset, .unset, .unset, .unset] [(.int p2)])) rfl (hb hby at_6) _ ?_
    show Steps p.tables e below (s₁.setTop (mkF m 8 #[.val (.int p1), .val (.int p2), .val (.int p3), .val (.int p4), .val (.int (p1 &&& (3 : Int32))), .unset, .unset, .unset, .unset, .unset, .unset, .unset, .unset, .unset, .unset, .unset, .unset, .unset] [(.int (2147483647 : Int32)), (.int p2)])) t₀
    refine XS.iand X0.here hx rfl (hb hby at_8) rfl ?_
    show Steps p.tables e below (s₁.setTop (mkF m 9 #[.val (.int p1), .val (.int p2), .val (.int p3), .val (.int p4), .val (.int (p1 &&& (3 : Int32))), .unset, .unset, .unset, .unset, .unset, .unset, .unset, .unset, .unset, .unset, .unset, .unset, .unset] [(.int (p2 &&& (2147483647 : Int32)))])) t₀
    refine XS.istore X0.here hx rfl (hb hby at_9) rfl (l' := #[.val (.int p1), .val (.int p2), .val (.int p3), .val (.int p4), .val (.int (p1 &&& (3 : Int32))), .val (.int (p2 &&& (2147483647 : Int32))), .unset, .unset, .unset, .unset, .unset, .unset, .unset, .unset, .unset, .unset, .unset, .unset]) rfl ?_
    show Steps p.tables e below (s₁.setTop (mkF m 11 #[.val (.int p1), .val (.int p2), .val (.int p3), .val (.int p4), .val (.int (p1 &&& (3 : Int32))), .val (.int (p2 &&& (2147483647 : Int32))), .unset, .unset, .unset, .unset, .unset, .unset, .unset, .unset, .unset, .unset, .unset, .unset] [])) t₀
    refine XS.iload X0.here hx rfl (hb hby at_11) rfl ?_
    exact k₀
  by_cases hc13 : (p1 &&& (3 : Int32)) = (0 : Int32)
  ·
    refine hG _ (s₁.setTop (mkF m 102 #[.val (.int p1), .val (.int p2), .val (.int p3), .val (.int p4), .val (.int (p1 &&& (3 : Int32))), .val (.int (p2 &&& (2147483647 : Int32))), .val (.int ((p2 &&& (2147483647 : Int32)) &&& (127 : Int32))), .val (.int (1 : Int32)), .unset, .unset, .unset, .unset, .unset, .unset, .unset, .unset, .unset, .unset] [])) (fun t₀ k₀ => ?_) ?_
    · show Steps p.tables e below (s₁.setTop (mkF m 13 #[.val (.int p1), .val (.int p2), .val (.int p3), .val (.int p4), .val (.int (p1 &&& (3 : Int32))), .val (.int (p2 &&& (2147483647 : Int32))), .unset, .unset, .unset, .unset, .unset, .unset, .unset, .unset, .unset, .unset, .unset, .unset] [(.int (p1 &&& (3 : Int32)))])) t₀
      refine XS.ifNo X0.here hx rfl (hb hby at_13) rfl ((if0 _ _).trans (teq hc13).2) ?_
      show Steps p.tables e below (s₁.setTop (mkF m 16 #[.val (.int p1), .val (.int p2), .val (.int p3), .val (.int p4), .val (.int (p1 &&& (3 : Int32))), .val (.int (p2 &&& (2147483647 : Int32))), .unset, .unset, .unset, .unset, .unset, .unset, .unset, .unset, .unset, .unset, .unset, .unset] [])) t₀
      refine XS.iload X0.here hx rfl (hb hby at_16) rfl ?_
      show Steps p.tables e below (s₁.setTop (mkF m 18 #[.val (.int p1), .val (.int p2), .val (.int p3), .val (.int p4), .val (.int (p1 &&& (3 : Int32))), .val (.int (p2 &&& (2147483647 : Int32))), .unset, .unset, .unset, .unset, .unset, .unset, .unset, .unset, .unset, .unset, .unset, .unset] [(.int (p2 &&& (2147483647 : Int32)))])) t₀
      refine XS.bipush X0.here hx rfl (hb hby at_18) ?_
      show Steps p.tables e below (s₁.setTop (mkF m 20 #[.val (.int p1), .val (.int p2), .val (.int p3), .val (.int p4), .val (.int (p1 &&& (3 : Int32))), .val (.int (p2 &&& (2147483647 : Int32))), .unset, .unset, .unset, .unset, .unset, .unset, .unset, .unset, .unset, .unset, .unset, .unset] [(.int (127 : Int32)), (.int (p2 &&& (2147483647 : Int32)))])) t₀
      refine XS.iand X0.here hx rfl (hb hby at_20) rfl ?_
      show Steps p.tables e below (s₁.setTop (mkF m 21 #[.val (.int p1), .val (.int p2), .val (.int p3), .val (.int p4), .val (.int (p1 &&& (3 : Int32))), .val (.int (p2 &&& (2147483647 : Int32))), .unset, .unset, .unset, .unset, .unset, .unset, .unset, .unset, .unset, .unset, .unset, .unset] [(.int ((p2 &&& (2147483647 : Int32)) &&& (127 : Int32)))])) t₀
      refine XS.istore X0.here hx rfl (hb hby at_21) rfl (l' := #[.val (.int p1), .val (.int p2), .val (.int p3), .val (.int p4), .val (.int (p1 &&& (3 : Int32))), .val (.int (p2 &&& (2147483647 : Int32))), .val (.int ((p2 &&& (2147483647 : Int32)) &&& (127 : Int32))), .unset, .unset, .unset, .unset, .unset, .unset, .unset, .unset, .unset, .unset, .unset]) rfl ?_
      show Steps p.tables e below (s₁.setTop (mkF m 23 #[.val (.int p1), .val (.int p2), .val (.int p3), .val (.int p4), .val (.int (p1 &&& (3 : Int32))), .val (.int (p2 &&& (2147483647 : Int32))), .val (.int ((p2 &&& (2147483647 : Int32)) &&& (127 : Int32))), .unset, .unset, .unset, .unset, .unset, .unset, .unset, .unset, .unset, .unset, .unset] [])) t₀
      refine XS.iconst X0.here hx rfl (hb hby at_23) ?_
      show Steps p.tables e below (s₁.setTop (mkF m 24 #[.val (.int p1), .val (.int p2), .val (.int p3), .val (.int p4), .val (.int (p1 &&& (3 : Int32))), .val (.int (p2 &&& (2147483647 : Int32))), .val (.int ((p2 &&& (2147483647 : Int32)) &&& (127 : Int32))), .unset, .unset, .unset, .unset, .unset, .unset, .unset, .unset, .unset, .unset, .unset] [(.int (1 : Int32))])) t₀
      refine XS.istore X0.here hx rfl (hb hby at_24) rfl (l' := #[.val (.int p1), .val (.int p2), .val (.int p3), .val (.int p4), .val (.int (p1 &&& (3 : Int32))), .val (.int (p2 &&& (2147483647 : Int32))), .val (.int ((p2 &&& (2147483647 : Int32)) &&& (127 : Int32))), .val (.int (1 : Int32)), .unset, .unset, .unset, .unset, .unset, .unset, .unset, .unset, .unset, .unset]) rfl ?_
      show Steps p.tables e below (s₁.setTop (mkF m 26 #[.val (.int p1), .val (.int p2), .val (.int p3), .val (.int p4), .val (.int (p1 &&& (3 : Int32))), .val (.int (p2 &&& (2147483647 : Int32))), .val (.int ((p2 &&& (2147483647 : Int32)) &&& (127 : Int32))), .val (.int (1 : Int32)), .unset, .unset, .unset, .unset, .unset, .unset, .unset, .unset, .unset, .unset] [])) t₀
      refine XS.goto X0.here hx rfl (pc0 := 26) (pc' := 102) rfl (hb hby at_26) (by decide) (by decide) ?_
      exact k₀
    exact tlA ((p2 &&& (2147483647 : Int32)) &&& (127 : Int32)) (1 : Int32) (own_w1 _)
  ·
    refine hG _ (s₁.setTop (mkF m 32 #[.val (.int p1), .val (.int p2), .val (.int p3), .val (.int p4), .val (.int (p1 &&& (3 : Int32))), .val (.int (p2 &&& (2147483647 : Int32))), .unset, .unset, .unset, .unset, .unset, .unset, .unset, .unset, .unset, .unset, .unset, .unset] [(.int (1 : Int32)), (.int (p1 &&& (3 : Int32)))])) (fun t₀ k₀ => ?_) ?_
    · show Steps p.tables e below (s₁.setTop (mkF m 13 #[.val (.int p1), .val (.int p2), .val (.int p3), .val (.int p4), .val (.int (p1 &&& (3 : Int32))), .val (.int (p2 &&& (2147483647 : Int32))), .unset, .unset, .unset, .unset, .unset, .unset, .unset, .unset, .unset, .unset, .unset, .unset] [(.int (p1 &&& (3 : Int32)))])) t₀
      refine XS.ifYes X0.here hx rfl (pc0 := 13) (pc' := 29) rfl (hb hby at_13) rfl ((if0 _ _).trans (feq hc13).2) (by decide) (by decide) ?_
      show Steps p.tables e below (s₁.setTop (mkF m 29 #[.val (.int p1), .val (.int p2), .val (.int p3), .val (.int p4), .val (.int (p1 &&& (3 : Int32))), .val (.int (p2 &&& (2147483647 : Int32))), .unset, .unset, .unset, .unset, .unset, .unset, .unset, .unset, .unset, .unset, .unset, .unset] [])) t₀
      refine XS.iload X0.here hx rfl (hb hby at_29) rfl ?_
      show Steps p.tables e below (s₁.setTop (mkF m 31 #[.val (.int p1), .val (.int p2), .val (.int p3), .val (.int p4), .val (.int (p1 &&& (3 : Int32))), .val (.int (p2 &&& (2147483647 : Int32))), .unset, .unset, .unset, .unset, .unset, .unset, .unset, .unset, .unset, .unset, .unset, .unset] [(.int (p1 &&& (3 : Int32)))])) t₀
      refine XS.iconst X0.here hx rfl (hb hby at_31) ?_
      exact k₀
    by_cases hc32 : (p1 &&& (3 : Int32)) = (1 : Int32)
    ·
      refine hG _ (s₁.setTop (mkF m 102 #[.val (.int p1), .val (.int p2), .val (.int p3), .val (.int p4), .val (.int (p1 &&& (3 : Int32))), .val (.int (p2 &&& (2147483647 : Int32))), .val (.int ((128 : Int32) + ((p2 &&& (2147483647 : Int32)) % (1920 : Int32)))), .val (.int (2 : Int32)), .unset, .unset, .unset, .unset, .unset, .unset, .unset, .unset, .unset, .unset] [])) (fun t₀ k₀ => ?_) ?_
      · show Steps p.tables e below (s₁.setTop (mkF m 32 #[.val (.int p1), .val (.int p2), .val (.int p3), .val (.int p4), .val (.int (p1 &&& (3 : Int32))), .val (.int (p2 &&& (2147483647 : Int32))), .unset, .unset, .unset, .unset, .unset, .unset, .unset, .unset, .unset, .unset, .unset, .unset] [(.int (1 : Int32)), (.int (p1 &&& (3 : Int32)))])) t₀
        refine XS.icmpNo X0.here hx rfl (hb hby at_32) rfl (teq hc32).2 ?_
        show Steps p.tables e below (s₁.setTop (mkF m 35 #[.val (.int p1), .val (.int p2), .val (.int p3), .val (.int p4), .val (.int (p1 &&& (3 : Int32))), .val (.int (p2 &&& (2147483647 : Int32))), .unset, .unset, .unset, .unset, .unset, .unset, .unset, .unset, .unset, .unset, .unset, .unset] [])) t₀
        refine XS.sipush X0.here hx rfl (hb hby at_35) ?_
        show Steps p.tables e below (s₁.setTop (mkF m 38 #[.val (.int p1), .val (.int p2), .val (.int p3), .val (.int p4), .val (.int (p1 &&& (3 : Int32))), .val (.int (p2 &&& (2147483647 : Int32))), .unset, .unset, .unset, .unset, .unset, .unset, .unset, .unset, .unset, .unset, .unset, .unset] [(.int (128 : Int32))])) t₀
        refine XS.iload X0.here hx rfl (hb hby at_38) rfl ?_
        show Steps p.tables e below (s₁.setTop (mkF m 40 #[.val (.int p1), .val (.int p2), .val (.int p3), .val (.int p4), .val (.int (p1 &&& (3 : Int32))), .val (.int (p2 &&& (2147483647 : Int32))), .unset, .unset, .unset, .unset, .unset, .unset, .unset, .unset, .unset, .unset, .unset, .unset] [(.int (p2 &&& (2147483647 : Int32))), (.int (128 : Int32))])) t₀
        refine XS.sipush X0.here hx rfl (hb hby at_40) ?_
        show Steps p.tables e below (s₁.setTop (mkF m 43 #[.val (.int p1), .val (.int p2), .val (.int p3), .val (.int p4), .val (.int (p1 &&& (3 : Int32))), .val (.int (p2 &&& (2147483647 : Int32))), .unset, .unset, .unset, .unset, .unset, .unset, .unset, .unset, .unset, .unset, .unset, .unset] [(.int (1920 : Int32)), (.int (p2 &&& (2147483647 : Int32))), (.int (128 : Int32))])) t₀
        refine iremM X0 hx rfl (hb hby at_43) rfl (by decide) ?_
        show Steps p.tables e below (s₁.setTop (mkF m 44 #[.val (.int p1), .val (.int p2), .val (.int p3), .val (.int p4), .val (.int (p1 &&& (3 : Int32))), .val (.int (p2 &&& (2147483647 : Int32))), .unset, .unset, .unset, .unset, .unset, .unset, .unset, .unset, .unset, .unset, .unset, .unset] [(.int ((p2 &&& (2147483647 : Int32)) % (1920 : Int32))), (.int (128 : Int32))])) t₀
        refine XS.iadd X0.here hx rfl (hb hby at_44) rfl ?_
        show Steps p.tables e below (s₁.setTop (mkF m 45 #[.val (.int p1), .val (.int p2), .val (.int p3), .val (.int p4), .val (.int (p1 &&& (3 : Int32))), .val (.int (p2 &&& (2147483647 : Int32))), .unset, .unset, .unset, .unset, .unset, .unset, .unset, .unset, .unset, .unset, .unset, .unset] [(.int ((128 : Int32) + ((p2 &&& (2147483647 : Int32)) % (1920 : Int32))))])) t₀
        refine XS.istore X0.here hx rfl (hb hby at_45) rfl (l' := #[.val (.int p1), .val (.int p2), .val (.int p3), .val (.int p4), .val (.int (p1 &&& (3 : Int32))), .val (.int (p2 &&& (2147483647 : Int32))), .val (.int ((128 : Int32) + ((p2 &&& (2147483647 : Int32)) % (1920 : Int32)))), .unset, .unset, .unset, .unset, .unset, .unset, .unset, .unset, .unset, .unset, .unset]) rfl ?_
        show Steps p.tables e below (s₁.setTop (mkF m 47 #[.val (.int p1), .val (.int p2), .val (.int p3), .val (.int p4), .val (.int (p1 &&& (3 : Int32))), .val (.int (p2 &&& (2147483647 : Int32))), .val (.int ((128 : Int32) + ((p2 &&& (2147483647 : Int32)) % (1920 : Int32)))), .unset, .unset, .unset, .unset, .unset, .unset, .unset, .unset, .unset, .unset, .unset] [])) t₀
        refine XS.iconst X0.here hx rfl (hb hby at_47) ?_
        show Steps p.tables e below (s₁.setTop (mkF m 48 #[.val (.int p1), .val (.int p2), .val (.int p3), .val (.int p4), .val (.int (p1 &&& (3 : Int32))), .val (.int (p2 &&& (2147483647 : Int32))), .val (.int ((128 : Int32) + ((p2 &&& (2147483647 : Int32)) % (1920 : Int32)))), .unset, .unset, .unset, .unset, .unset, .unset, .unset, .unset, .unset, .unset, .unset] [(.int (2 : Int32))])) t₀
        refine XS.istore X0.here hx rfl (hb hby at_48) rfl (l' := #[.val (.int p1), .val (.int p2), .val (.int p3), .val (.int p4), .val (.int (p1 &&& (3 : Int32))), .val (.int (p2 &&& (2147483647 : Int32))), .val (.int ((128 : Int32) + ((p2 &&& (2147483647 : Int32)) % (1920 : Int32)))), .val (.int (2 : Int32)), .unset, .unset, .unset, .unset, .unset, .unset, .unset, .unset, .unset, .unset]) rfl ?_
        show Steps p.tables e below (s₁.setTop (mkF m 50 #[.val (.int p1), .val (.int p2), .val (.int p3), .val (.int p4), .val (.int (p1 &&& (3 : Int32))), .val (.int (p2 &&& (2147483647 : Int32))), .val (.int ((128 : Int32) + ((p2 &&& (2147483647 : Int32)) % (1920 : Int32)))), .val (.int (2 : Int32)), .unset, .unset, .unset, .unset, .unset, .unset, .unset, .unset, .unset, .unset] [])) t₀
        refine XS.goto X0.here hx rfl (pc0 := 50) (pc' := 102) rfl (hb hby at_50) (by decide) (by decide) ?_
        exact k₀
      exact tlA ((128 : Int32) + ((p2 &&& (2147483647 : Int32)) % (1920 : Int32))) (2 : Int32) (own_w2 p2)
    ·
      refine hG _ (s₁.setTop (mkF m 56 #[.val (.int p1), .val (.int p2), .val (.int p3), .val (.int p4), .val (.int (p1 &&& (3 : Int32))), .val (.int (p2 &&& (2147483647 : Int32))), .unset, .unset, .unset, .unset, .unset, .unset, .unset, .unset, .unset, .unset, .unset, .unset] [(.int (2 : Int32)), (.int (p1 &&& (3 : Int32)))])) (fun t₀ k₀ => ?_) ?_
      · show Steps p.tables e below (s₁.setTop (mkF m 32 #[.val (.int p1), .val (.int p2), .val (.int p3), .val (.int p4), .val (.int (p1 &&& (3 : Int32))), .val (.int (p2 &&& (2147483647 : Int32))), .unset, .unset, .unset, .unset, .unset, .unset, .unset, .unset, .unset, .unset, .unset, .unset] [(.int (1 : Int32)), (.int (p1 &&& (3 : Int32)))])) t₀
        refine XS.icmpYes X0.here hx rfl (pc0 := 32) (pc' := 53) rfl (hb hby at_32) rfl (feq hc32).2 (by decide) (by decide) ?_
        show Steps p.tables e below (s₁.setTop (mkF m 53 #[.val (.int p1), .val (.int p2), .val (.int p3), .val (.int p4), .val (.int (p1 &&& (3 : Int32))), .val (.int (p2 &&& (2147483647 : Int32))), .unset, .unset, .unset, .unset, .unset, .unset, .unset, .unset, .unset, .unset, .unset, .unset] [])) t₀
        refine XS.iload X0.here hx rfl (hb hby at_53) rfl ?_
        show Steps p.tables e below (s₁.setTop (mkF m 55 #[.val (.int p1), .val (.int p2), .val (.int p3), .val (.int p4), .val (.int (p1 &&& (3 : Int32))), .val (.int (p2 &&& (2147483647 : Int32))), .unset, .unset, .unset, .unset, .unset, .unset, .unset, .unset, .unset, .unset, .unset, .unset] [(.int (p1 &&& (3 : Int32)))])) t₀
        refine XS.iconst X0.here hx rfl (hb hby at_55) ?_
        exact k₀
      by_cases hc56 : (p1 &&& (3 : Int32)) = (2 : Int32)
      ·
        refine hG _ (s₁.setTop (mkF m 74 #[.val (.int p1), .val (.int p2), .val (.int p3), .val (.int p4), .val (.int (p1 &&& (3 : Int32))), .val (.int (p2 &&& (2147483647 : Int32))), .val (.int ((2048 : Int32) + ((p2 &&& (2147483647 : Int32)) % (61440 : Int32)))), .unset, .unset, .unset, .unset, .unset, .unset, .unset, .unset, .unset, .unset, .unset] [(.int (55296 : Int32)), (.int ((2048 : Int32) + ((p2 &&& (2147483647 : Int32)) % (61440 : Int32))))])) (fun t₀ k₀ => ?_) ?_
        · show Steps p.tables e below (s₁.setTop (mkF m 56 #[.val (.int p1), .val (.int p2), .val (.int p3), .val (.int p4), .val (.int (p1 &&& (3 : Int32))), .val (.int (p2 &&& (2147483647 : Int32))), .unset, .unset, .unset, .unset, .unset, .unset, .unset, .unset, .unset, .unset, .unset, .unset] [(.int (2 : Int32)), (.int (p1 &&& (3 : Int32)))])) t₀
          refine XS.icmpNo X0.here hx rfl (hb hby at_56) rfl (teq hc56).2 ?_
          show Steps p.tables e below (s₁.setTop (mkF m 59 #[.val (.int p1), .val (.int p2), .val (.int p3), .val (.int p4), .val (.int (p1 &&& (3 : Int32))), .val (.int (p2 &&& (2147483647 : Int32))), .unset, .unset, .unset, .unset, .unset, .unset, .unset, .unset, .unset, .unset, .unset, .unset] [])) t₀
          refine XS.sipush X0.here hx rfl (hb hby at_59) ?_
          show Steps p.tables e below (s₁.setTop (mkF m 62 #[.val (.int p1), .val (.int p2), .val (.int p3), .val (.int p4), .val (.int (p1 &&& (3 : Int32))), .val (.int (p2 &&& (2147483647 : Int32))), .unset, .unset, .unset, .unset, .unset, .unset, .unset, .unset, .unset, .unset, .unset, .unset] [(.int (2048 : Int32))])) t₀
          refine XS.iload X0.here hx rfl (hb hby at_62) rfl ?_
          show Steps p.tables e below (s₁.setTop (mkF m 64 #[.val (.int p1), .val (.int p2), .val (.int p3), .val (.int p4), .val (.int (p1 &&& (3 : Int32))), .val (.int (p2 &&& (2147483647 : Int32))), .unset, .unset, .unset, .unset, .unset, .unset, .unset, .unset, .unset, .unset, .unset, .unset] [(.int (p2 &&& (2147483647 : Int32))), (.int (2048 : Int32))])) t₀
          refine X0.ldcInt hx hown (mvT hZ (hw _ (List.mem_of_getElem? (i := 15) rfl))) (g := (mkF m 64 #[.val (.int p1), .val (.int p2), .val (.int p3), .val (.int p4), .val (.int (p1 &&& (3 : Int32))), .val (.int (p2 &&& (2147483647 : Int32))), .unset, .unset, .unset, .unset, .unset, .unset, .unset, .unset, .unset, .unset, .unset, .unset] [(.int (p2 &&& (2147483647 : Int32))), (.int (2048 : Int32))])) rfl (hb hby at_64) _ ?_
          show Steps p.tables e below (s₁.setTop (mkF m 66 #[.val (.int p1), .val (.int p2), .val (.int p3), .val (.int p4), .val (.int (p1 &&& (3 : Int32))), .val (.int (p2 &&& (2147483647 : Int32))), .unset, .unset, .unset, .unset, .unset, .unset, .unset, .unset, .unset, .unset, .unset, .unset] [(.int (61440 : Int32)), (.int (p2 &&& (2147483647 : Int32))), (.int (2048 : Int32))])) t₀
          refine iremM X0 hx rfl (hb hby at_66) rfl (by decide) ?_
          show Steps p.tables e below (s₁.setTop (mkF m 67 #[.val (.int p1), .val (.int p2), .val (.int p3), .val (.int p4), .val (.int (p1 &&& (3 : Int32))), .val (.int (p2 &&& (2147483647 : Int32))), .unset, .unset, .unset, .unset, .unset, .unset, .unset, .unset, .unset, .unset, .unset, .unset] [(.int ((p2 &&& (2147483647 : Int32)) % (61440 : Int32))), (.int (2048 : Int32))])) t₀
          refine XS.iadd X0.here hx rfl (hb hby at_67) rfl ?_
          show Steps p.tables e below (s₁.setTop (mkF m 68 #[.val (.int p1), .val (.int p2), .val (.int p3), .val (.int p4), .val (.int (p1 &&& (3 : Int32))), .val (.int (p2 &&& (2147483647 : Int32))), .unset, .unset, .unset, .unset, .unset, .unset, .unset, .unset, .unset, .unset, .unset, .unset] [(.int ((2048 : Int32) + ((p2 &&& (2147483647 : Int32)) % (61440 : Int32))))])) t₀
          refine XS.istore X0.here hx rfl (hb hby at_68) rfl (l' := #[.val (.int p1), .val (.int p2), .val (.int p3), .val (.int p4), .val (.int (p1 &&& (3 : Int32))), .val (.int (p2 &&& (2147483647 : Int32))), .val (.int ((2048 : Int32) + ((p2 &&& (2147483647 : Int32)) % (61440 : Int32)))), .unset, .unset, .unset, .unset, .unset, .unset, .unset, .unset, .unset, .unset, .unset]) rfl ?_
          show Steps p.tables e below (s₁.setTop (mkF m 70 #[.val (.int p1), .val (.int p2), .val (.int p3), .val (.int p4), .val (.int (p1 &&& (3 : Int32))), .val (.int (p2 &&& (2147483647 : Int32))), .val (.int ((2048 : Int32) + ((p2 &&& (2147483647 : Int32)) % (61440 : Int32)))), .unset, .unset, .unset, .unset, .unset, .unset, .unset, .unset, .unset, .unset, .unset] [])) t₀
          refine XS.iload X0.here hx rfl (hb hby at_70) rfl ?_
          show Steps p.tables e below (s₁.setTop (mkF m 72 #[.val (.int p1), .val (.int p2), .val (.int p3), .val (.int p4), .val (.int (p1 &&& (3 : Int32))), .val (.int (p2 &&& (2147483647 : Int32))), .val (.int ((2048 : Int32) + ((p2 &&& (2147483647 : Int32)) % (61440 : Int32)))), .unset, .unset, .unset, .unset, .unset, .unset, .unset, .unset, .unset, .unset, .unset] [(.int ((2048 : Int32) + ((p2 &&& (2147483647 : Int32)) % (61440 : Int32))))])) t₀
          refine X0.ldcInt hx hown (mvT hZ (hw _ (List.mem_of_getElem? (i := 16) rfl))) (g := (mkF m 72 #[.val (.int p1), .val (.int p2), .val (.int p3), .val (.int p4), .val (.int (p1 &&& (3 : Int32))), .val (.int (p2 &&& (2147483647 : Int32))), .val (.int ((2048 : Int32) + ((p2 &&& (2147483647 : Int32)) % (61440 : Int32)))), .unset, .unset, .unset, .unset, .unset, .unset, .unset, .unset, .unset, .unset, .unset] [(.int ((2048 : Int32) + ((p2 &&& (2147483647 : Int32)) % (61440 : Int32))))])) rfl (hb hby at_72) _ ?_
          exact k₀
        by_cases hc74 : ((2048 : Int32) + ((p2 &&& (2147483647 : Int32)) % (61440 : Int32))) < (55296 : Int32)
        ·
          refine hG _ (s₁.setTop (mkF m 102 #[.val (.int p1), .val (.int p2), .val (.int p3), .val (.int p4), .val (.int (p1 &&& (3 : Int32))), .val (.int (p2 &&& (2147483647 : Int32))), .val (.int ((2048 : Int32) + ((p2 &&& (2147483647 : Int32)) % (61440 : Int32)))), .val (.int (3 : Int32)), .unset, .unset, .unset, .unset, .unset, .unset, .unset, .unset, .unset, .unset] [])) (fun t₀ k₀ => ?_) ?_
          · show Steps p.tables e below (s₁.setTop (mkF m 74 #[.val (.int p1), .val (.int p2), .val (.int p3), .val (.int p4), .val (.int (p1 &&& (3 : Int32))), .val (.int (p2 &&& (2147483647 : Int32))), .val (.int ((2048 : Int32) + ((p2 &&& (2147483647 : Int32)) % (61440 : Int32)))), .unset, .unset, .unset, .unset, .unset, .unset, .unset, .unset, .unset, .unset, .unset] [(.int (55296 : Int32)), (.int ((2048 : Int32) + ((p2 &&& (2147483647 : Int32)) % (61440 : Int32))))])) t₀
            refine XS.icmpYes X0.here hx rfl (pc0 := 74) (pc' := 83) rfl (hb hby at_74) rfl (tlt hc74).1 (by decide) (by decide) ?_
            show Steps p.tables e below (s₁.setTop (mkF m 83 #[.val (.int p1), .val (.int p2), .val (.int p3), .val (.int p4), .val (.int (p1 &&& (3 : Int32))), .val (.int (p2 &&& (2147483647 : Int32))), .val (.int ((2048 : Int32) + ((p2 &&& (2147483647 : Int32)) % (61440 : Int32)))), .unset, .unset, .unset, .unset, .unset, .unset, .unset, .unset, .unset, .unset, .unset] [])) t₀
            refine XS.iconst X0.here hx rfl (hb hby at_83) ?_
            show Steps p.tables e below (s₁.setTop (mkF m 84 #[.val (.int p1), .val (.int p2), .val (.int p3), .val (.int p4), .val (.int (p1 &&& (3 : Int32))), .val (.int (p2 &&& (2147483647 : Int32))), .val (.int ((2048 : Int32) + ((p2 &&& (2147483647 : Int32)) % (61440 : Int32)))), .unset, .unset, .unset, .unset, .unset, .unset, .unset, .unset, .unset, .unset, .unset] [(.int (3 : Int32))])) t₀
            refine XS.istore X0.here hx rfl (hb hby at_84) rfl (l' := #[.val (.int p1), .val (.int p2), .val (.int p3), .val (.int p4), .val (.int (p1 &&& (3 : Int32))), .val (.int (p2 &&& (2147483647 : Int32))), .val (.int ((2048 : Int32) + ((p2 &&& (2147483647 : Int32)) % (61440 : Int32)))), .val (.int (3 : Int32)), .unset, .unset, .unset, .unset, .unset, .unset, .unset, .unset, .unset, .unset]) rfl ?_
            show Steps p.tables e below (s₁.setTop (mkF m 86 #[.val (.int p1), .val (.int p2), .val (.int p3), .val (.int p4), .val (.int (p1 &&& (3 : Int32))), .val (.int (p2 &&& (2147483647 : Int32))), .val (.int ((2048 : Int32) + ((p2 &&& (2147483647 : Int32)) % (61440 : Int32)))), .val (.int (3 : Int32)), .unset, .unset, .unset, .unset, .unset, .unset, .unset, .unset, .unset, .unset] [])) t₀
            refine XS.goto X0.here hx rfl (pc0 := 86) (pc' := 102) rfl (hb hby at_86) (by decide) (by decide) ?_
            exact k₀
          exact tlA ((2048 : Int32) + ((p2 &&& (2147483647 : Int32)) % (61440 : Int32))) (3 : Int32) (own_w3 p2 hc74)
        ·
          refine hG _ (s₁.setTop (mkF m 102 #[.val (.int p1), .val (.int p2), .val (.int p3), .val (.int p4), .val (.int (p1 &&& (3 : Int32))), .val (.int (p2 &&& (2147483647 : Int32))), .val (.int (((2048 : Int32) + ((p2 &&& (2147483647 : Int32)) % (61440 : Int32))) + (2048 : Int32))), .val (.int (3 : Int32)), .unset, .unset, .unset, .unset, .unset, .unset, .unset, .unset, .unset, .unset] [])) (fun t₀ k₀ => ?_) ?_
          · show Steps p.tables e below (s₁.setTop (mkF m 74 #[.val (.int p1), .val (.int p2), .val (.int p3), .val (.int p4), .val (.int (p1 &&& (3 : Int32))), .val (.int (p2 &&& (2147483647 : Int32))), .val (.int ((2048 : Int32) + ((p2 &&& (2147483647 : Int32)) % (61440 : Int32)))), .unset, .unset, .unset, .unset, .unset, .unset, .unset, .unset, .unset, .unset, .unset] [(.int (55296 : Int32)), (.int ((2048 : Int32) + ((p2 &&& (2147483647 : Int32)) % (61440 : Int32))))])) t₀
            refine XS.icmpNo X0.here hx rfl (hb hby at_74) rfl (flt hc74).1 ?_
            show Steps p.tables e below (s₁.setTop (mkF m 77 #[.val (.int p1), .val (.int p2), .val (.int p3), .val (.int p4), .val (.int (p1 &&& (3 : Int32))), .val (.int (p2 &&& (2147483647 : Int32))), .val (.int ((2048 : Int32) + ((p2 &&& (2147483647 : Int32)) % (61440 : Int32)))), .unset, .unset, .unset, .unset, .unset, .unset, .unset, .unset, .unset, .unset, .unset] [])) t₀
            refine own_iincW X0.here hx rfl (hb hby at_77) rfl (l' := #[.val (.int p1), .val (.int p2), .val (.int p3), .val (.int p4), .val (.int (p1 &&& (3 : Int32))), .val (.int (p2 &&& (2147483647 : Int32))), .val (.int (((2048 : Int32) + ((p2 &&& (2147483647 : Int32)) % (61440 : Int32))) + (2048 : Int32))), .unset, .unset, .unset, .unset, .unset, .unset, .unset, .unset, .unset, .unset, .unset]) rfl ?_
            show Steps p.tables e below (s₁.setTop (mkF m 83 #[.val (.int p1), .val (.int p2), .val (.int p3), .val (.int p4), .val (.int (p1 &&& (3 : Int32))), .val (.int (p2 &&& (2147483647 : Int32))), .val (.int (((2048 : Int32) + ((p2 &&& (2147483647 : Int32)) % (61440 : Int32))) + (2048 : Int32))), .unset, .unset, .unset, .unset, .unset, .unset, .unset, .unset, .unset, .unset, .unset] [])) t₀
            refine XS.iconst X0.here hx rfl (hb hby at_83) ?_
            show Steps p.tables e below (s₁.setTop (mkF m 84 #[.val (.int p1), .val (.int p2), .val (.int p3), .val (.int p4), .val (.int (p1 &&& (3 : Int32))), .val (.int (p2 &&& (2147483647 : Int32))), .val (.int (((2048 : Int32) + ((p2 &&& (2147483647 : Int32)) % (61440 : Int32))) + (2048 : Int32))), .unset, .unset, .unset, .unset, .unset, .unset, .unset, .unset, .unset, .unset, .unset] [(.int (3 : Int32))])) t₀
            refine XS.istore X0.here hx rfl (hb hby at_84) rfl (l' := #[.val (.int p1), .val (.int p2), .val (.int p3), .val (.int p4), .val (.int (p1 &&& (3 : Int32))), .val (.int (p2 &&& (2147483647 : Int32))), .val (.int (((2048 : Int32) + ((p2 &&& (2147483647 : Int32)) % (61440 : Int32))) + (2048 : Int32))), .val (.int (3 : Int32)), .unset, .unset, .unset, .unset, .unset, .unset, .unset, .unset, .unset, .unset]) rfl ?_
            show Steps p.tables e below (s₁.setTop (mkF m 86 #[.val (.int p1), .val (.int p2), .val (.int p3), .val (.int p4), .val (.int (p1 &&& (3 : Int32))), .val (.int (p2 &&& (2147483647 : Int32))), .val (.int (((2048 : Int32) + ((p2 &&& (2147483647 : Int32)) % (61440 : Int32))) + (2048 : Int32))), .val (.int (3 : Int32)), .unset, .unset, .unset, .unset, .unset, .unset, .unset, .unset, .unset, .unset] [])) t₀
            refine XS.goto X0.here hx rfl (pc0 := 86) (pc' := 102) rfl (hb hby at_86) (by decide) (by decide) ?_
            exact k₀
          exact tlA (((2048 : Int32) + ((p2 &&& (2147483647 : Int32)) % (61440 : Int32))) + (2048 : Int32)) (3 : Int32) (own_w3' p2 hc74)
      ·
        refine hG _ (s₁.setTop (mkF m 102 #[.val (.int p1), .val (.int p2), .val (.int p3), .val (.int p4), .val (.int (p1 &&& (3 : Int32))), .val (.int (p2 &&& (2147483647 : Int32))), .val (.int ((65536 : Int32) + ((p2 &&& (2147483647 : Int32)) % (1048576 : Int32)))), .val (.int (4 : Int32)), .unset, .unset, .unset, .unset, .unset, .unset, .unset, .unset, .unset, .unset] [])) (fun t₀ k₀ => ?_) ?_
        · show Steps p.tables e below (s₁.setTop (mkF m 56 #[.val (.int p1), .val (.int p2), .val (.int p3), .val (.int p4), .val (.int (p1 &&& (3 : Int32))), .val (.int (p2 &&& (2147483647 : Int32))), .unset, .unset, .unset, .unset, .unset, .unset, .unset, .unset, .unset, .unset, .unset, .unset] [(.int (2 : Int32)), (.int (p1 &&& (3 : Int32)))])) t₀
          refine XS.icmpYes X0.here hx rfl (pc0 := 56) (pc' := 89) rfl (hb hby at_56) rfl (feq hc56).2 (by decide) (by decide) ?_
          show Steps p.tables e below (s₁.setTop (mkF m 89 #[.val (.int p1), .val (.int p2), .val (.int p3), .val (.int p4), .val (.int (p1 &&& (3 : Int32))), .val (.int (p2 &&& (2147483647 : Int32))), .unset, .unset, .unset, .unset, .unset, .unset, .unset, .unset, .unset, .unset, .unset, .unset] [])) t₀
          refine X0.ldcInt hx hown (mvT hZ (hw _ (List.mem_of_getElem? (i := 12) rfl))) (g := (mkF m 89 #[.val (.int p1), .val (.int p2), .val (.int p3), .val (.int p4), .val (.int (p1 &&& (3 : Int32))), .val (.int (p2 &&& (2147483647 : Int32))), .unset, .unset, .unset, .unset, .unset, .unset, .unset, .unset, .unset, .unset, .unset, .unset] [])) rfl (hb hby at_89) _ ?_
          show Steps p.tables e below (s₁.setTop (mkF m 91 #[.val (.int p1), .val (.int p2), .val (.int p3), .val (.int p4), .val (.int (p1 &&& (3 : Int32))), .val (.int (p2 &&& (2147483647 : Int32))), .unset, .unset, .unset, .unset, .unset, .unset, .unset, .unset, .unset, .unset, .unset, .unset] [(.int (65536 : Int32))])) t₀
          refine XS.iload X0.here hx rfl (hb hby at_91) rfl ?_
          show Steps p.tables e below (s₁.setTop (mkF m 93 #[.val (.int p1), .val (.int p2), .val (.int p3), .val (.int p4), .val (.int (p1 &&& (3 : Int32))), .val (.int (p2 &&& (2147483647 : Int32))), .unset, .unset, .unset, .unset, .unset, .unset, .unset, .unset, .unset, .unset, .unset, .unset] [(.int (p2 &&& (2147483647 : Int32))), (.int (65536 : Int32))])) t₀
          refine X0.ldcInt hx hown (mvT hZ (hw _ (List.mem_of_getElem? (i := 13) rfl))) (g := (mkF m 93 #[.val (.int p1), .val (.int p2), .val (.int p3), .val (.int p4), .val (.int (p1 &&& (3 : Int32))), .val (.int (p2 &&& (2147483647 : Int32))), .unset, .unset, .unset, .unset, .unset, .unset, .unset, .unset, .unset, .unset, .unset, .unset] [(.int (p2 &&& (2147483647 : Int32))), (.int (65536 : Int32))])) rfl (hb hby at_93) _ ?_
          show Steps p.tables e below (s₁.setTop (mkF m 95 #[.val (.int p1), .val (.int p2), .val (.int p3), .val (.int p4), .val (.int (p1 &&& (3 : Int32))), .val (.int (p2 &&& (2147483647 : Int32))), .unset, .unset, .unset, .unset, .unset, .unset, .unset, .unset, .unset, .unset, .unset, .unset] [(.int (1048576 : Int32)), (.int (p2 &&& (2147483647 : Int32))), (.int (65536 : Int32))])) t₀
          refine iremM X0 hx rfl (hb hby at_95) rfl (by decide) ?_
          show Steps p.tables e below (s₁.setTop (mkF m 96 #[.val (.int p1), .val (.int p2), .val (.int p3), .val (.int p4), .val (.int (p1 &&& (3 : Int32))), .val (.int (p2 &&& (2147483647 : Int32))), .unset, .unset, .unset, .unset, .unset, .unset, .unset, .unset, .unset, .unset, .unset, .unset] [(.int ((p2 &&& (2147483647 : Int32)) % (1048576 : Int32))), (.int (65536 : Int32))])) t₀
          refine XS.iadd X0.here hx rfl (hb hby at_96) rfl ?_
          show Steps p.tables e below (s₁.setTop (mkF m 97 #[.val (.int p1), .val (.int p2), .val (.int p3), .val (.int p4), .val (.int (p1 &&& (3 : Int32))), .val (.int (p2 &&& (2147483647 : Int32))), .unset, .unset, .unset, .unset, .unset, .unset, .unset, .unset, .unset, .unset, .unset, .unset] [(.int ((65536 : Int32) + ((p2 &&& (2147483647 : Int32)) % (1048576 : Int32))))])) t₀
          refine XS.istore X0.here hx rfl (hb hby at_97) rfl (l' := #[.val (.int p1), .val (.int p2), .val (.int p3), .val (.int p4), .val (.int (p1 &&& (3 : Int32))), .val (.int (p2 &&& (2147483647 : Int32))), .val (.int ((65536 : Int32) + ((p2 &&& (2147483647 : Int32)) % (1048576 : Int32)))), .unset, .unset, .unset, .unset, .unset, .unset, .unset, .unset, .unset, .unset, .unset]) rfl ?_
          show Steps p.tables e below (s₁.setTop (mkF m 99 #[.val (.int p1), .val (.int p2), .val (.int p3), .val (.int p4), .val (.int (p1 &&& (3 : Int32))), .val (.int (p2 &&& (2147483647 : Int32))), .val (.int ((65536 : Int32) + ((p2 &&& (2147483647 : Int32)) % (1048576 : Int32)))), .unset, .unset, .unset, .unset, .unset, .unset, .unset, .unset, .unset, .unset, .unset] [])) t₀
          refine XS.iconst X0.here hx rfl (hb hby at_99) ?_
          show Steps p.tables e below (s₁.setTop (mkF m 100 #[.val (.int p1), .val (.int p2), .val (.int p3), .val (.int p4), .val (.int (p1 &&& (3 : Int32))), .val (.int (p2 &&& (2147483647 : Int32))), .val (.int ((65536 : Int32) + ((p2 &&& (2147483647 : Int32)) % (1048576 : Int32)))), .unset, .unset, .unset, .unset, .unset, .unset, .unset, .unset, .unset, .unset, .unset] [(.int (4 : Int32))])) t₀
          refine XS.istore X0.here hx rfl (hb hby at_100) rfl (l' := #[.val (.int p1), .val (.int p2), .val (.int p3), .val (.int p4), .val (.int (p1 &&& (3 : Int32))), .val (.int (p2 &&& (2147483647 : Int32))), .val (.int ((65536 : Int32) + ((p2 &&& (2147483647 : Int32)) % (1048576 : Int32)))), .val (.int (4 : Int32)), .unset, .unset, .unset, .unset, .unset, .unset, .unset, .unset, .unset, .unset]) rfl ?_
          exact k₀
        exact tlA ((65536 : Int32) + ((p2 &&& (2147483647 : Int32)) % (1048576 : Int32))) (4 : Int32) (own_w4 p2)
theorem own_el {s : State} {args : Array Value} {t : Term} {k v : Int32} {a : Addr} {cl : Cell} (n : Nat) (hk : k.toNatClampNeg = n) (hk0 : ¬ k < 0) (h : (Jvm.Cond.eq (.elem t (.int k)) (.int v)).value args s none s [] = some true) (ev : t.eval args s none [] s = some (.ref a)) (hat : s.arrayAt? a = some cl) : cl.slots[n]? = some (.int v) := by
  have e := Cond.eq_int (show (Jvm.Cond.eq (.elem t (.int k)) (.int v)).holds args s none s [] = true by simp [Cond.holds, h]) (rfl : (Term.int v).eval args s none [] s = some (.int v))
  rw [elem_f ev (rfl : (Term.int k).eval args s none [] s = some (.int k)) hat hk0, hk] at e
  exact e

set_option maxRecDepth 65536 in
set_option maxHeartbeats 40000000 in
theorem comes_1 {Post : Tables → Env → Array Value → State → Outcome → State → Prop} (hpost : ∀ tb e args s v u, (limb_1_1.after args s (.returned v) u = true ∧ limb_1_2.after args s (.returned v) u = true ∧ True) → FrameEnd s (.returned v) u (Jvm.fieldLocs frame_1_writes args s ++ Jvm.arrayLocs frame_1_arrays args s ++ Jvm.staticLocs frame_1_statics s) 16 128 → Post tb e args s (.returned v) u) :
    ArmFor flags0 classFile x code maxLocals ret World_1 tables_1 room_1 Calls_1 rest_1 Pre_1 Post := by
  intro l hfl _ _ p e ha hc hk s m args below hf hA hF happ hP
  obtain ⟨hcalls, hrest, hpre⟩ := hP
  obtain ⟨-, -, -, hnamed, -, -, -, hat⟩ := (Spec.applies_iff hf).mp happ
  obtain ⟨hg, hn⟩ := and_e (Cond.before_iff.mp (show (Jvm.Cond.and given_1 narrow_1).before args s = true from hpre))
  obtain ⟨hcount, gg⟩ := and_e hg
  obtain ⟨ga0, gg⟩ := and_e gg
  obtain ⟨ga1, gg⟩ := and_e gg
  obtain ⟨ga2, gg⟩ := and_e gg
  have ga3 := gg
  obtain ⟨w0, w1, w2, w3, rfl⟩ : ∃ w0 w1 w2 w3 : Value, args = #[w0, w1, w2, w3] := by
    have hs : args.size = 4 := by simpa [Cond.value, given_1] using hcount
    obtain ⟨L⟩ := args
    match L, hs with
    | [w0, w1, w2, w3], _ => exact ⟨w0, w1, w2, w3, rfl⟩
  have hw := fun d (hd : d ∈ tables_1) => atoms_spec (ws := Jvm.Cond.code x code maxLocals ret :: tables_1) hat d (List.mem_cons_of_mem _ hd)
  have hfit : Fit s := fun {y c} hc i hi => by
    obtain ⟨ha, rfl⟩ := Array.getElem?_eq_some_iff.mp hc
    have q := List.all_eq_true.mp ((Array.all_eq_true_iff_forall_mem.mp hF) _ (Array.getElem_mem ha)) i (List.mem_range.mpr hi)
    simpa [Array.getElem?_eq_getElem hi] using q
  obtain ⟨i0, ei0⟩ := is_v ga0
  obtain rfl : w0 = (.int i0) := Option.some.inj ei0
  obtain ⟨i1, ei1⟩ := is_v ga1
  obtain rfl : w1 = (.int i1) := Option.some.inj ei1
  obtain ⟨i2, ei2⟩ := is_v ga2
  obtain rfl : w2 = (.int i2) := Option.some.inj ei2
  obtain ⟨i3, ei3⟩ := is_v ga3
  obtain rfl : w3 = (.int i3) := Option.some.inj ei3
  obtain ⟨m0, hn⟩ := and_e hn
  obtain ⟨m1, hn⟩ := and_e hn
  obtain ⟨e0, hn⟩ := and_e hn
  obtain ⟨e1, hn⟩ := and_e hn
  obtain ⟨e2, hn⟩ := and_e hn
  obtain ⟨e3, e4⟩ := and_e hn
  obtain ⟨wL, evL⟩ := arr_v m0
  obtain ⟨cl, AL⟩ := Arr.start evL m0
  obtain ⟨hsz, hsize⟩ := Jvm.Free.IntBox.length_fwd (Cond.before_iff.mpr m1) evL AL.1 AL.2.1 AL.2.2
  have hat := Jvm.Free.IntBox.arrayAt_of AL.1 AL.2.1 AL.2.2
  have VL := Arv.start (dv := .int (0 : Int32)) (vs := [.int (0 : Int32), .int (0 : Int32), .int (192 : Int32), .int (224 : Int32), .int (240 : Int32)]) hfit AL hsz hsize (by decide) rfl ⟨own_el 0 rfl (by decide) e0 evL hat, own_el 1 rfl (by decide) e1 evL hat, own_el 2 rfl (by decide) e2 evL hat, own_el 3 rfl (by decide) e3 evL hat, own_el 4 rfl (by decide) e4 evL hat, trivial⟩
  have S_LEAD := Sta.start evL (Or.inr ⟨(hw _ (List.mem_of_getElem? (i := 4) rfl)), (hw _ (List.mem_of_getElem? (i := 7) rfl))⟩)
  obtain ⟨n, o, h1, h2, h3, _, L, rfl, ⟨rfl, N⟩, hq⟩ := rm0 l s _ hw tables_1 i0 i1 i2 i3 wL cl.cls s.heap s.heap.size (Nat.le_refl _) (Old.start s) S_LEAD VL p e ha hc hk s m _ below hf ((Spec.applies_iff_loose hf).mp happ).1 ⟨rfl, State.Warmed39.refl s, rfl⟩ trivial
  refine ⟨n, _, h1, h2, h3, hpost _ _ _ _ _ _ ⟨Cond.after_iff.mpr rfl, Cond.after_iff.mpr (eq_i res_at (Term.int_eval (1)) rfl), trivial⟩ ⟨hq.1, hq.2.1, (hq.2.2.sift fun y hy => Or.inr (N y hy)).mono (by decide) (by decide)⟩⟩
theorem main_1_1 : Claimed_1_1 := comes_1 fun _ _ _ _ _ _ h hF => ⟨h.1, hF⟩
theorem main_1_2 : Claimed_1_2 := comes_1 fun _ _ _ _ _ _ h hF => ⟨h.2.1, hF⟩
end Jvm.Pilot.@@N@@
namespace Jvm.Pilot.@@N@@
open Jvm Jvm.ClassFile Sem Op Lib Jvm.Free Jvm.Stand Jvm.Pilot.@@N@@.Jvm.D
/-! MADE BY PROGRAM (witnessworld.py) out of the Statement's table words and the real class files: 9 classes; the members and pool entries that the words name. The judged class is class 1, her method 2. -/
namespace start1
open Jvm.ClassFile
def u (s : String) : CpInfo := .utf8 (stringToUtf16 s)
/-- a pool by its gaps: so many unusable entries, then the entry; so many at the end -/
def gap : Nat → List CpInfo → List CpInfo
  | 0, r => r
  | n + 1, r => .unusable :: gap n r
def poolList (es : List (Nat × CpInfo)) (last : Nat) : List CpInfo := es.foldr (fun e r => gap e.1 (e.2 :: r)) (gap last [])
def pool (es : List (Nat × CpInfo)) (last : Nat) : Array CpInfo := ⟨poolList es last⟩
def fileOf (pool : Array CpInfo) (this : Nat) (attrs : Array Attribute := #[]) (ms : Array MethodInfo := #[]) (fl : Nat := 33) (sup : Nat := 0) (ifs : Array Nat := #[]) (fds : Array FieldInfo := #[]) : ClassFile where
  minorVersion := 0
  majorVersion := 65
  constantPool := pool
  accessFlags := fl
  thisClass := this
  superClass := sup
  interfaces := ifs
  fields := fds
  methods := ms
  attributes := attrs
def plain (name : String) (sup : Option ClassId) : Class where
  name := name
  kind := .ordinary
  loader := none
  accessFlags := 33
  super := sup
  interfaces := #[]
  cf := none
  fields := #[]
  methods := #[]
  instanceTypes := #[]
  staticTypes := #[]
  resolved := #[]
  callSites := []
  init := .initialized
  statics := none
  mirror := none

def pool0 : Array CpInfo := pool [(5, u "<init>"), (0, u "()V"), (1, .class_ 10), (1, u "java/lang/Object")] 113

def k0m0 : Method := { name := "<init>", desc := "()V", sig := { parameters := [], returnType := none }, accessFlags := 1, code := none }
/-- java/lang/Object -/
def k0 : Class := { plain "java/lang/Object" none with
  accessFlags := 33
  interfaces := #[]
  cf := some (fileOf pool0 8 #[] #[{ accessFlags := 1, nameIndex := 5, descriptorIndex := 6, attributes := #[] }] 33 0 #[] #[])
  fields := #[]
  methods := #[k0m0]
  instanceTypes := #[]
  staticTypes := #[]
  resolved := Array.replicate 124 none
  statics := none }

def pool1 : Array CpInfo := pool [(2, .class_ 4), (1, u "java/lang/Object"), (0, u "<init>"), (0, u "()V"), (0, .integer 2147483647), (0, .integer 61440), (0, .integer 55296), (0, .integer 65536), (0, .integer 1048576), (0, .methodref 13 14), (0, .class_ 15), (0, .nameAndType 16 17), (0, u "com/example/opledger/opledger/Utf8"), (0, u "encode"), (0, u "(I[BI)I"), (0, .methodref 19 20), (0, .class_ 21), (0, .nameAndType 22 23), (0, u "com/example/opledger/opledger/Utf8EncodePinLaw"), (0, u "kept"), (0, u "([BIIIB)Z"), (3, u "law"), (0, u "(IIII)Z")] 4

def k1m0 : Method := { name := "<init>", desc := "()V", sig := { parameters := [], returnType := none }, accessFlags := 2, code := none }
def k1c1 : Code := { maxStack := 3, maxLocals := 5, code := method_2_code, exceptionTable := #[], attributes := #[] }
def k1m1 : Method := { name := "kept", desc := "([BIIIB)Z", sig := { parameters := [(.array .byte), .int, .int, .int, .byte], returnType := some .boolean }, accessFlags := 10, code := some k1c1 }
def k1c2 : Code := { maxStack := 5, maxLocals := 18, code := code, exceptionTable := #[], attributes := #[] }
def k1m2 : Method := { name := "law", desc := "(IIII)Z", sig := { parameters := [.int, .int, .int, .int], returnType := some .boolean }, accessFlags := 9, code := some k1c2 }
/-- com/example/opledger/opledger/Utf8EncodePinLaw -/
def k1 : Class := { plain "com/example/opledger/opledger/Utf8EncodePinLaw" (some 0) with
  accessFlags := 49
  interfaces := #[]
  cf := some (fileOf pool1 19 #[] #[{ accessFlags := 2, nameIndex := 5, descriptorIndex := 6, attributes := #[] }, { accessFlags := 10, nameIndex := 22, descriptorIndex := 23, attributes := #[] }, { accessFlags := 9, nameIndex := 27, descriptorIndex := 28, attributes := #[] }] 49 2 #[] #[])
  fields := #[]
  methods := #[k1m0, k1m1, k1m2]
  instanceTypes := #[]
  staticTypes := #[]
  resolved := Array.replicate 33 none
  statics := none }

def pool2 : Array CpInfo := pool [(1, .class_ 2), (0, u "com/example/opledger/opledger/Utf8"), (1, .class_ 6), (1, u "java/lang/Object"), (0, u "<init>"), (0, u "()V"), (2, u "STEPS"), (0, u "[J"), (10, u "NEXT_STATE"), (0, u "[I"), (2, u "NEXT_LOWEST"), (2, u "NEXT_HIGHEST"), (37, .class_ 69), (0, u "com/example/opledger/opledger/Utf8$Checker"), (15, .integer 65536), (0, .fieldref 1 87), (0, .nameAndType 88 24), (0, u "LEAD_BITS"), (4, u "BETWEEN"), (0, u "I"), (2, u "STEP_BITS"), (1, u "STATE_MASK"), (1, u "MALFORMED"), (1, u "ROW_BITS"), (15, u "encode"), (0, u "(I[BI)I")] 22

def k2m0 : Method := { name := "<init>", desc := "()V", sig := { parameters := [], returnType := none }, accessFlags := 2, code := none }
def k2c1 : Code := { maxStack := 7, maxLocals := 5, code := prog_87_method_12_code, exceptionTable := #[], attributes := #[] }
def k2m1 : Method := { name := "encode", desc := "(I[BI)I", sig := { parameters := [.int, (.array .byte), .int], returnType := some .int }, accessFlags := 8, code := some k2c1 }
/-- com/example/opledger/opledger/Utf8 -/
def k2 : Class := { plain "com/example/opledger/opledger/Utf8" (some 0) with
  accessFlags := 48
  interfaces := #[]
  cf := some (fileOf pool2 1 #[.nestMembers #[68]] #[{ accessFlags := 2, nameIndex := 7, descriptorIndex := 8, attributes := #[] }, { accessFlags := 8, nameIndex := 119, descriptorIndex := 120, attributes := #[] }] 48 4 #[] #[{ accessFlags := 26, nameIndex := 88, descriptorIndex := 24, attributes := #[] }, { accessFlags := 24, nameIndex := 93, descriptorIndex := 94, attributes := #[] }, { accessFlags := 26, nameIndex := 97, descriptorIndex := 94, attributes := #[] }, { accessFlags := 24, nameIndex := 99, descriptorIndex := 94, attributes := #[] }, { accessFlags := 26, nameIndex := 101, descriptorIndex := 94, attributes := #[] }, { accessFlags := 24, nameIndex := 103, descriptorIndex := 94, attributes := #[] }, { accessFlags := 26, nameIndex := 27, descriptorIndex := 24, attributes := #[] }, { accessFlags := 26, nameIndex := 30, descriptorIndex := 24, attributes := #[] }, { accessFlags := 26, nameIndex := 23, descriptorIndex := 24, attributes := #[] }, { accessFlags := 26, nameIndex := 11, descriptorIndex := 12, attributes := #[] }])
  fields := #[{ name := "LEAD_BITS", type := (.array .int), accessFlags := 26, slot := 0, constantValue := 0 }, { name := "BETWEEN", type := .int, accessFlags := 24, slot := 1, constantValue := 0 }, { name := "STEP_BITS", type := .int, accessFlags := 26, slot := 2, constantValue := 0 }, { name := "STATE_MASK", type := .int, accessFlags := 24, slot := 3, constantValue := 0 }, { name := "MALFORMED", type := .int, accessFlags := 26, slot := 4, constantValue := 0 }, { name := "ROW_BITS", type := .int, accessFlags := 24, slot := 5, constantValue := 0 }, { name := "NEXT_LOWEST", type := (.array .int), accessFlags := 26, slot := 6, constantValue := 0 }, { name := "NEXT_HIGHEST", type := (.array .int), accessFlags := 26, slot := 7, constantValue := 0 }, { name := "NEXT_STATE", type := (.array .int), accessFlags := 26, slot := 8, constantValue := 0 }, { name := "STEPS", type := (.array .long), accessFlags := 26, slot := 9, constantValue := 0 }]
  methods := #[k2m0, k2m1]
  instanceTypes := #[]
  staticTypes := #[(.array .int), .int, .int, .int, .int, .int, (.array .int), (.array .int), (.array .int), (.array .long)]
  resolved := Array.replicate 143 none
  statics := some 0 }

def pool3 : Array CpInfo := pool [(1, u "java/lang/Cloneable"), (0, .class_ 1), (0, u "java/lang/Object"), (0, .class_ 3)] 3

/-- java/lang/Cloneable -/
def k3 : Class := { plain "java/lang/Cloneable" (some 0) with
  accessFlags := 1537
  interfaces := #[]
  cf := some (fileOf pool3 2 #[] #[] 1537 4 #[] #[])
  fields := #[]
  methods := #[]
  instanceTypes := #[]
  staticTypes := #[]
  resolved := Array.replicate 8 none
  statics := none }

def pool4 : Array CpInfo := pool [(1, u "java/io/Serializable"), (0, .class_ 1), (0, u "java/lang/Object"), (0, .class_ 3)] 3

/-- java/io/Serializable -/
def k4 : Class := { plain "java/io/Serializable" (some 0) with
  accessFlags := 1537
  interfaces := #[]
  cf := some (fileOf pool4 2 #[] #[] 1537 4 #[] #[])
  fields := #[]
  methods := #[]
  instanceTypes := #[]
  staticTypes := #[]
  resolved := Array.replicate 8 none
  statics := none }

/-- the primitive byte -/
def k5 : Class := { plain "byte" none with kind := .primitive 'B', accessFlags := 0x411 }
/-- [B -/
def k6 : Class := { plain "[B" (some 0) with kind := .array 5 .byte, interfaces := #[3, 4], accessFlags := 1041 }

/-- the primitive int -/
def k7 : Class := { plain "int" none with kind := .primitive 'I', accessFlags := 0x411 }
/-- [I -/
def k8 : Class := { plain "[I" (some 0) with kind := .array 7 .int, interfaces := #[3, 4], accessFlags := 1041 }

def heap : Heap := #[{ cls := 2, slots := #[.ref 1, .int 0, .int 0, .int 0, .int 0, .int 0, .null, .null, .null, .null], vm := .statics 2 },
  { cls := 8, slots := #[.int 0, .int 0, .int 192, .int 224, .int 240], vm := .none }]
def classes : Array Class := #[k0, k1, k2, k3, k4, k5, k6, k7, k8]
def interned : List (Array UInt16 × Addr) := []
def slotsUsed : Nat := 15
def theMethod : MethodId := ⟨1, 2⟩
def args0 : Array Value := #[.int 5, .int 4, .int 5, .int 4]
def aboutOver (below : List Frame) : State where
  vm := { classes := classes, interned := interned.toArray }
  heap := heap
  slotsUsed := slotsUsed
  threads := #[{ frames := .invoking theMethod args0 :: below }]
def below0 : List Frame := [.native { method := ⟨0, 0⟩, args := #[] }]
def about1 : State := aboutOver below0
def p0 : Program := .bare "" "" ""
def e0 : Env := launch0.env 0 0 0
theorem w_frames : about1.frames = Frame.invoking theMethod args0 :: below0 := rfl
set_option maxRecDepth 65536 in
theorem w_args : argsFit about1.vm theMethod args0 = true := by decide +kernel
set_option maxRecDepth 65536 in
theorem w_heap : heapFits about1 = true := by decide +kernel
set_option maxRecDepth 65536 in
theorem w_runnable : about1.curStatus? = some .runnable := by decide +kernel
set_option maxRecDepth 65536 in
theorem w_alone : about1.alone = true := by decide +kernel
set_option maxRecDepth 65536 in
theorem w_named : about1.methodNamed? x = some theMethod := by decide +kernel
set_option maxRecDepth 65536 in
theorem w_hears : about1.hears theMethod below0 = true := by decide +kernel
set_option maxRecDepth 65536 in
theorem w_ripe : about1.ripe theMethod args0 below0 = true := by decide +kernel
theorem w_running : about1.status = .running := rfl
set_option maxRecDepth 65536 in
theorem w_room : about1.hasRoom e0.platform room_1 = true :=
  launch0.hasRoom_least _ room_1 (by decide +kernel) (by decide +kernel) (by decide +kernel) (by decide +kernel) (by decide +kernel) (by decide +kernel)
theorem allAtoms_all (ts : List Jvm.Cond) (a : Array Jvm.Value) (st : Jvm.State) : (allAtoms ts).before a st = ts.all (fun c => c.before a st) := by
  induction ts with
  | nil => rfl
  | cons c t ih =>
    show (Jvm.Cond.and c (allAtoms t)).before a st = _
    rw [Jvm.Cond.before_and, ih, List.all_cons]
def words1 : List Jvm.Cond := Jvm.Cond.code x code maxLocals ret :: tables_1
/-- a 'code' word, met by the world's own term for the bytes: nothing is compared byte by byte -/
theorem code_word {y : MethodName} {bytes : ByteArray} {mx : Nat} {rt : Option FieldType} {a : Array Value} {s : State} {m : MethodId} {meth : Method} {c : Code} (h1 : s.methodNamed? y = some m) (h2 : s.vm.method? m = some meth) (h3 : meth.code = some c) (h4 : c.code = bytes)
    (h5 : (c.maxLocals == mx && c.exceptionTable.isEmpty && decide (c.maxStack ≤ mostOperands) && decide (meth.sig.returnType = rt) && !meth.locks && decide (parseMethodDescriptor y.desc = some meth.sig)) = true) : (Jvm.Cond.code y bytes mx rt).before a s = true := by
  simp only [Bool.and_eq_true, beq_iff_eq, Bool.not_eq_true', decide_eq_true_eq] at h5
  obtain ⟨⟨⟨⟨⟨g1, g2⟩, g3⟩, g4⟩, g5⟩, g6⟩ := h5
  simp [Cond.before, Cond.holds, Cond.value, h1, h2, h3, h4, g1, g2, g3, g4, g5, g6]
def isCode : Jvm.Cond → Bool
  | .code _ _ _ _ => true
  | _ => false
theorem all_split {L : List Jvm.Cond} {P : Jvm.Cond → Bool} (h1 : L.all (fun c => isCode c || P c) = true) (h2 : ∀ c ∈ L.filter isCode, P c = true) : L.all P = true := by
  refine List.all_eq_true.mpr fun c hc => ?_
  have h := List.all_eq_true.mp h1 c hc
  rcases Bool.eq_false_or_eq_true (isCode c) with hi | hi
  · exact h2 c (List.mem_filter.mpr ⟨hc, hi⟩)
  · simpa [hi] using h
set_option maxRecDepth 65536 in
theorem w_c0 : (Jvm.Cond.code x code maxLocals ret).before args0 about1 = true := code_word (m := ⟨1, 2⟩) (meth := k1m2) (c := k1c2) (by decide +kernel) rfl rfl rfl (by decide +kernel)
set_option maxRecDepth 65536 in
theorem w_c1 : (Jvm.Cond.code ({ cls := "com/example/opledger/opledger/Utf8", name := "encode", desc := "(I[BI)I" } : Jvm.MethodName) prog_87_method_12_code (5 : Nat) (Option.some Jvm.ClassFile.FieldType.int)).before args0 about1 = true := code_word (m := ⟨2, 1⟩) (meth := k2m1) (c := k2c1) (by decide +kernel) rfl rfl rfl (by decide +kernel)
set_option maxRecDepth 65536 in
theorem w_c2 : (Jvm.Cond.code ({ cls := "com/example/opledger/opledger/Utf8EncodePinLaw", name := "kept", desc := "([BIIIB)Z" } : Jvm.MethodName) method_2_code (5 : Nat) (Option.some Jvm.ClassFile.FieldType.boolean)).before args0 about1 = true := code_word (m := ⟨1, 1⟩) (meth := k1m1) (c := k1c1) (by decide +kernel) rfl rfl rfl (by decide +kernel)
def codes1 : List Jvm.Cond := [Jvm.Cond.code x code maxLocals ret, Jvm.Cond.code ({ cls := "com/example/opledger/opledger/Utf8", name := "encode", desc := "(I[BI)I" } : Jvm.MethodName) prog_87_method_12_code (5 : Nat) (Option.some Jvm.ClassFile.FieldType.int), Jvm.Cond.code ({ cls := "com/example/opledger/opledger/Utf8EncodePinLaw", name := "kept", desc := "([BIIIB)Z" } : Jvm.MethodName) method_2_code (5 : Nat) (Option.some Jvm.ClassFile.FieldType.boolean)]
set_option maxRecDepth 65536 in
theorem codes_eq : words1.filter isCode = codes1 := rfl
theorem w_codes : ∀ c ∈ words1.filter isCode, c.before args0 about1 = true := by
  rw [codes_eq]
  intro c hc
  simp only [codes1, List.mem_cons, List.not_mem_nil, or_false] at hc
  rcases hc with rfl | rfl | rfl
  · exact w_c0
  · exact w_c1
  · exact w_c2
set_option maxRecDepth 65536 in
theorem w_t1 : words1.all (fun c => isCode c || c.before args0 about1) = true := by decide +kernel
theorem w_tables : (allAtoms (Jvm.Cond.code x code maxLocals ret :: tables_1)).before args0 about1 = true := by
  rw [allAtoms_all]
  show words1.all (fun c => c.before args0 about1) = true
  refine all_split ?_ w_codes
  rw [w_t1]
set_option maxRecDepth 65536 in
theorem w_case : (Jvm.Cond.and given_1 narrow_1).before args0 about1 = true := by decide +kernel
theorem w_applies : (headSpec (Jvm.Cond.code x code maxLocals ret :: tables_1) room_1).applies x e0.platform about1 = true :=
  (Spec.applies_iff w_frames).mpr ⟨w_running, w_runnable, w_alone, w_named, w_hears, w_ripe, w_room, w_tables⟩
theorem atStart : AtStart classFile x code maxLocals ret World_1 tables_1 room_1 Calls_1 rest_1 Pre_1 launch0 p0 e0 about1 theMethod args0 below0 :=
  ⟨lists_1, trivial, launch0.admits_env _ _ _, launch0.least_env, fairChoices_fair.cas, fairChoices_fair.clock, w_frames, w_args, w_heap, w_applies, trivial, trivial, w_case⟩
end start1
theorem witness_1 : WitnessClaimed_1 := ⟨start1.p0, start1.e0, start1.about1, start1.theMethod, start1.args0, start1.below0, start1.atStart⟩
end Jvm.Pilot.@@N@@
