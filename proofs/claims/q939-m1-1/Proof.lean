import JvmDerived
import JvmDerived.Pilot.@@N@@Statement
import JvmDerived.Pilot.@@N@@Code
set_option linter.unusedVariables false
set_option linter.unusedSimpArgs false
namespace Jvm.RoadKit
open Sem ClassFile Op Lib Jvm.Stand Jvm.Free Jvm.LawKit
section New
variable {p : Program} {l : Launch} {e : Env} {R : Room} {s : State} {m : MethodId} {args : Array Value} {below : List Frame} {meth : Method} {c : Code} {T : State} {locs : List Loc} {cells slots : Nat}
theorem retI (X : Stand p l e R s m args below meth c T locs cells slots) (hx : p.tables.exec = Jvm.exec) {pc : Nat} {Ls : Array Slot} {z : Int32} {rest : List Value} (hret : meth.sig.returnType = some .int) (hd : decode c.code pc = .ok (.ireturn, 1)) {fs : List Frame}
    (hl : ∀ (f : JFrame) (acts : List Action), f.method = m → f.locked = none → f.entered = [] → (doReturn e (T.setTop f) acts (some (.int z))).1 = T.setFrames fs) : Steps p.tables e below (T.setTop (mkF m pc Ls (.int z :: rest))) (T.setFrames fs) := by
  have hm' : T.vm.method? m = some meth := X.method'
  have hn : narrow .int (.int z) = .int z := rfl
  show Steps p.tables e below (T.setTop { method := m, pc := pc, locals := Ls, stack := _ :: rest, locked := none }) _
  jvm_step X.here [X.here.top, hx, hd, hm', hret, hn]
  first | (intro acts; rw [hl _ acts rfl rfl rfl]) | rw [hl _ _ rfl rfl rfl]
  exact Steps.refl _
/-- the run from A ends, and P holds at the end -/
def own_Go (p : Program) (e : Env) (below : List Frame) (A : State) (P : State → Outcome → Prop) : Prop := ∃ s₂ o, Steps p.tables e below A s₂ ∧ s₂.status = .running ∧ Ended s₂ below o ∧ P s₂ o
theorem own_by {A B : State} {P : State → Outcome → Prop} (h : ∀ t, Steps p.tables e below B t → Steps p.tables e below A t) (g : own_Go p e below B P) : own_Go p e below A P := by
  obtain ⟨s2, o, h1, h2⟩ := g
  exact ⟨s2, o, h _ h1, h2⟩
theorem own_end (X : Stand p l e R s m args below meth c T locs cells slots) {v : Option Value} (hv : meth.sig.returnType = none → v = none) (hlk : meth.locks = false) {A : State} {Q : Option Value → Heap → List Loc → Prop} {k n : Nat}
    (hs : ∀ fs, (∀ (f : JFrame) (acts : List Action), f.method = m → f.locked = none → f.entered = [] → (doReturn e (T.setTop f) acts v).1 = T.setFrames fs) → Steps p.tables e below A (T.setFrames fs))
    (hq : Q v T.heap locs) (hk : cells ≤ k) (hn : slots ≤ n) : own_Go p e below A (fun t o => ∃ v L, o = .returned v ∧ Q v t.heap L ∧ FrameEnd s o t L k n) := by
  obtain ⟨fs, hr, hrun, hended, hW, hsame⟩ := X.leave (v := v) hv hlk
  exact ⟨_, _, hs fs hr, hrun, hended, _, _, rfl, hq, ⟨_, rfl⟩, hW, hsame.mono hk hn⟩
theorem own_endW {vm₁ : Vm} (X : Stand p l e R (s.setVm vm₁) m args below meth c T locs cells slots) {n0 : Nat} (hS : s.Since vm₁ n0) (hn0 : n0 ≤ T.heap.size) {v : Option Value} (hv : meth.sig.returnType = none → v = none) (hlk : meth.locks = false) {A : State} {Q : Option Value → Heap → List Loc → Prop} {k n : Nat}
    (hs : ∀ fs, (∀ (f : JFrame) (acts : List Action), f.method = m → f.locked = none → f.entered = [] → (doReturn e (T.setTop f) acts v).1 = T.setFrames fs) → Steps p.tables e below A (T.setFrames fs))
    (hq : Q v T.heap locs) (hk : cells ≤ k) (hn : slots ≤ n) : own_Go p e below A (fun t o => ∃ v L, o = .returned v ∧ Q v t.heap L ∧ ReturnedEndW s o t L k n) := by
  obtain ⟨fs, hr, hrun, hended, h1, h2, h3, h4⟩ := X.leaveW hS hn0 (v := v) hv hlk
  exact ⟨_, _, hs fs hr, hrun, hended, _, _, rfl, hq, h1, h2, h3, h4.mono hk hn⟩
theorem own_newPE {Z : State} {a0 : Array Value} {h : Heap} (X : Stand p l e R s m args below meth c T locs cells slots) (hx : p.tables.exec = Jvm.exec) (hZ : Z.Warmed39 s.vm) {aty : ArrayType} (w : (Cond.arrayClass (newarray.typeOf aty)).before a0 Z = true) (eT : T.heap = h) {g : JFrame} (hg : g.method = m) (hd : decode c.code g.pc = .ok (.newarray aty, 2)) {n : Int32} {rest : List Value} (hs : g.stack = .int n :: rest)
    (hn : ¬ n < 0) {cap : Nat} (hcap : n.toNatClampNeg ≤ cap) (hb : cap * 8 ≤ 536870912) (hc : cells + 1 ≤ R.cells) (hl : slots + cap ≤ R.slots) {ad : String} (had : "[" ++ (newarray.typeOf aty).toString = ad) :
    ∃ T' h' cA, Stand p l e R s m args below meth c T' locs (cells + 1) (slots + cap) ∧ T'.heap = h' ∧ Ext h h' ∧ Arr Z h' h.size (newA cA (newarray.typeOf aty) n) (newarray.typeOf aty) ∧ Exa Z h' h.size ad ∧
      ∀ target, Steps p.tables e below (T'.setTop { g with pc := g.pc + 2, stack := .ref h.size :: rest }) target → Steps p.tables e below (T.setTop g) target := by
  have hcb : componentBytes (newarray.typeOf aty) ≤ 8 := by cases aty <;> decide
  obtain ⟨cA, kA, comp, f1, f2, f3, Y, st⟩ := X.newarrayPrim hx (mvA hZ w) hg hd hs hn (Nat.le_trans (Nat.mul_le_mul hcap hcb) hb) hc (Nat.le_trans (Nat.add_le_add_left hcap _) hl)
  subst eT had
  have f1' : Z.vm.findClass ("[" ++ (newarray.typeOf aty).toString) = some cA := by rw [← hZ.alike.findClass]; exact f1
  obtain ⟨kZ, z1, -⟩ := Vm.findClass_spec f1'
  obtain ⟨k', z2, z3⟩ := hZ.alike.2.2 _ _ z1
  have ek : kA = k' := Option.some.inj (f2.symm.trans z2)
  have kd : kZ.kind = .array comp (newarray.typeOf aty) := by rw [← f3, ek, z3]
  have hN : (T.heap.push (newA cA (newarray.typeOf aty) n))[T.heap.size]? = some (newA cA (newarray.typeOf aty) n) := by simp
  refine ⟨_, _, cA, Y.more (Nat.le_refl _) (Nat.add_le_add_left hcap _), rfl, ext_of fun a q => ?_, ⟨hN, ⟨fun _ z => (by cases z), kZ, z1, comp, kd⟩, fun z => (by cases z)⟩, ⟨_, kZ, hN, f1', z1, rfl, fun ho => by rw [kd] at ho; cases ho⟩, st⟩
  exact (Array.getElem?_push_lt q).trans (Array.getElem?_eq_getElem q).symm
end New
section Arf
variable {Z : State} {h h' : Heap} {a b : Addr} {ty : FieldType} {n z : Int32} {f g : Nat → Value} {sl : Nat} {v : Value} {ws : List Addr} {k : ClassId}
/-- an array of n places, of which place i holds f i -/
def own_Arf (Z : State) (h : Heap) (a : Addr) (ty : FieldType) (n : Int32) (f : Nat → Value) : Prop := ∃ c : Cell, Arr Z h a c ty ∧ c.slots.size = n.toNatClampNeg ∧ ¬ n < 0 ∧ ∀ i, i < c.slots.size → c.slots[i]? = some (f i)
theorem own_Arf.lt (F : own_Arf Z h a ty n f) : a < h.size := by obtain ⟨c, A, -⟩ := F; exact A.lt
theorem own_Arf.ext (F : own_Arf Z h a ty n f) (E : Ext h h') : own_Arf Z h' a ty n f := by obtain ⟨c, A, r⟩ := F; exact ⟨c, A.ext E, r⟩
theorem own_Arf.other (F : own_Arf Z h b ty n f) (W : Wr h h' a sl v) (q : b ≠ a) : own_Arf Z h' b ty n f := by obtain ⟨c, A, r⟩ := F; exact ⟨c, A.other W q, r⟩
theorem own_Arf.keep (F : own_Arf Z h a ty n f) (K : Keep h h' ws) (q : a ∉ ws) : own_Arf Z h' a ty n f := by obtain ⟨c, A, r⟩ := F; exact ⟨c, ⟨K.2.1 a c A.1 q, A.2⟩, r⟩
theorem own_Arf.new (A : Arr Z h a (newA k ty z) ty) (q : ¬ z < 0) : own_Arf Z h a ty z (fun _ => defaultValue ty) := ⟨_, A, sz_new _ _ _, q, fun i hi => by
  rw [sz_new] at hi
  simp [newA, hi]⟩
theorem own_Arf.set (F : own_Arf Z h a ty n f) (W : Wr h h' a sl v) : own_Arf Z h' a ty n (fun i => if i = sl then v else f i) := by
  obtain ⟨c, A, S, N, H⟩ := F
  have hsl : sl < c.slots.size := by
    obtain ⟨c2, e1, -, e3, -⟩ := W
    cases A.1.symm.trans e1
    exact e3
  refine ⟨_, A.same W, by rw [sz_set]; exact S, N, fun i hi => ?_⟩
  rw [sz_set] at hi
  by_cases e : i = sl
  · subst e
    simp [Cell.setSlot, hi]
  · simp only [Cell.setSlot, if_neg e]
    rw [Array.getElem?_setIfInBounds_ne (Ne.symm e)]
    exact H i hi
theorem own_Arf.congr (F : own_Arf Z h a ty n f) (q : ∀ i, i < n.toNatClampNeg → f i = g i) : own_Arf Z h a ty n g := by
  obtain ⟨c, A, S, N, H⟩ := F
  exact ⟨c, A, S, N, fun i hi => by rw [← q i (by rw [← S]; exact hi)]; exact H i hi⟩
theorem own_Arf.at (F : own_Arf Z h a ty n f) {j : Int32} (q : ¬ j < 0 ∧ j < n) : ∃ c : Cell, Arr Z h a c ty ∧ ¬ (j < 0 ∨ c.slots.size ≤ j.toNatClampNeg) ∧ c.slots[j.toNatClampNeg]? = some (f j.toNatClampNeg) := by
  obtain ⟨c, A, S, N, H⟩ := F
  have hin := inb_of S q
  exact ⟨c, A, hin, H _ (Nat.lt_of_not_le fun y => hin (Or.inr y))⟩
theorem own_Arf.nn (F : own_Arf Z h a ty n f) : ¬ n < 0 := by obtain ⟨c, A, S, N, H⟩ := F; exact N
/-- an array of objects of the class C -/
def own_Ovr (Z : State) (h : Heap) (a : Addr) (C : String) : Prop := ∃ (c : Cell) (ty : FieldType), Arr Z h a c ty ∧ Ovr Z c.cls C
theorem own_Ovr.wr {C : String} (W : Wr h h' b sl v) (F : own_Ovr Z h a C) : own_Ovr Z h' a C := by
  obtain ⟨c, ty, A, O⟩ := F
  by_cases e : a = b
  · subst e; exact ⟨_, ty, A.same W, O⟩
  · exact ⟨c, ty, A.other W e, O⟩
theorem own_Ovr.ext {C : String} (F : own_Ovr Z h a C) (E : Ext h h') : own_Ovr Z h' a C := by obtain ⟨c, ty, A, O⟩ := F; exact ⟨c, ty, A.ext E, O⟩
theorem own_Ovr.sto {C : String} {y : Addr} (F : own_Ovr Z h a C) (I : Exa Z h y C) : Sto Z h a (.ref y) := by obtain ⟨c, ty, A, O⟩ := F; exact Sto.of A O (Ins.self I)
theorem own_selp {s : State} {a0 args : Array Value} {y : MethodName} {n : Nat} (hZ : Z.Warmed39 s.vm) (wi : (Cond.instantiable y.cls n).before a0 Z = true) (wn : (Cond.instanceMethod y).before a0 Z = true) (wp : (Cond.privateMethod y).before a0 Z = true) (hy : y.cls ≠ "java/lang/invoke/MethodHandle" ∧ y.cls ≠ "java/lang/invoke/VarHandle") : (Cond.selects y.cls y y).before args s = true := by
  obtain ⟨c2, k2, i1, i2, -, i4, -⟩ := Cond.instantiable_spec (mvT hZ wi : (Cond.instantiable y.cls n).before args s = true)
  simp only [Bool.or_eq_false_iff] at i4
  exact selects_self_of_private i1 i2 i4.1 (Cond.privateMethod_at (mvP hZ wp (args := args))) (mvT hZ wn) hy
theorem own_sta_keep {C n d : String} {w : Value} (F : Sta Z h C n d w) (K : Keep h h' []) : Sta Z h' C n d w := by
  obtain ⟨cf, i, k, f, st, cell, h1, h2, h3, h4, h5, h6⟩ := F
  exact ⟨cf, i, k, f, st, cell, h1, h2, h3, h4, K.2.1 _ _ h5 nin0, h6⟩
theorem own_ofNat_int {m : Nat} (h : m < 2 ^ 31) : (Int32.ofNat m).toInt = m := Int32.toInt_ofNat_of_lt h
theorem own_tn {m : Nat} (h : m < 2 ^ 31) : (Int32.ofNat m).toNatClampNeg = m := by
  show (Int32.ofNat m).toInt.toNat = m
  rw [own_ofNat_int h]; omega
theorem own_nn {m : Nat} (h : m < 2 ^ 31) : ¬ Int32.ofNat m < 0 := by
  rw [Int32.lt_iff_toInt_lt, own_ofNat_int h]; show ¬ (m : Int) < 0; omega
theorem own_ltN {i m : Nat} (h : i < m) (hm : m < 2 ^ 31) : Int32.ofNat i < Int32.ofNat m := by
  rw [Int32.lt_iff_toInt_lt, own_ofNat_int hm, own_ofNat_int (by omega)]; omega
theorem own_in {i m : Nat} (h : i < m) (hm : m < 2 ^ 31) : ¬ Int32.ofNat i < 0 ∧ Int32.ofNat i < Int32.ofNat m := ⟨own_nn (by omega), own_ltN h hm⟩
theorem own_injN {i m : Nat} (hi : i < 2 ^ 31) (hm : m < 2 ^ 31) (e : Int32.ofNat i = Int32.ofNat m) : i = m := by
  have := congrArg Int32.toInt e
  rw [own_ofNat_int hi, own_ofNat_int hm] at this; omega
theorem own_Arf.arv (F : own_Arf Z h a ty n f) (hf : ∀ i, i < n.toNatClampNeg → fits ty (f i) = true) (d : Value) : ∃ k, Arv Z h a k ty n ((List.range n.toNatClampNeg).map f) d := by
  obtain ⟨c, A, S, N, H⟩ := F
  have hg : ∀ i, i < n.toNatClampNeg → ((List.range n.toNatClampNeg).map f).getD i d = f i := fun i hi => by
    simp [List.getD, hi]
  refine ⟨c.cls, c, A, rfl, S, N, fun i hi => ?_, fun i hi => ?_⟩
  · rw [hg i (by rw [← S]; exact hi)]; exact H i hi
  · rw [hg i (by rw [← S]; exact hi)]; exact hf i (by rw [← S]; exact hi)
theorem own_Arf.of {vs : List Value} {d : Value} (F : Arv Z h a k ty n vs d) : own_Arf Z h a ty n (fun i => vs.getD i d) := by
  obtain ⟨c, A, -, S, N, H, -⟩ := F
  exact ⟨c, A, S, N, H⟩
end Arf
end Jvm.RoadKit
namespace Jvm.Pilot.@@N@@
open Jvm Jvm.ClassFile Sem Op Lib Jvm.Free Jvm.Stand Jvm.LawKit Jvm.RoadKit Bundle Jvm.Pilot.@@N@@.Jvm.D
def own_mix (h x : Int32) : Int32 := (h ^^^ x) * (-1640531527 : Int32)
def own_fin (h : Int32) : Int32 := h ^^^ ((h.toUInt32 >>> ((16 : Int32) &&& 31).toUInt32).toInt32)
theorem own_fin_bv (h : Int32) : (own_fin h).toBitVec = h.toBitVec ^^^ (h.toBitVec >>> 16) := by
  unfold own_fin
  rw [Int32.toBitVec_xor]
  rfl
theorem own_fin_inj {a b : Int32} (e : own_fin a = own_fin b) : a = b := by
  have h : ∀ x : BitVec 32, (x ^^^ (x >>> 16)) ^^^ ((x ^^^ (x >>> 16)) >>> 16) = x := by
    intro x
    rw [BitVec.ushiftRight_xor_distrib, ← BitVec.shiftRight_add]
    have : x >>> (16 + 16) = 0#32 := BitVec.ushiftRight_eq_zero (by decide)
    rw [this, BitVec.xor_zero, BitVec.xor_assoc, BitVec.xor_self, BitVec.xor_zero]
  apply Int32.toBitVec_inj.mp
  have e2 : (own_fin a).toBitVec = (own_fin b).toBitVec := by rw [e]
  rw [own_fin_bv, own_fin_bv] at e2
  rw [← h a.toBitVec, ← h b.toBitVec, e2]
theorem own_mix_inj {h a b : Int32} (e : own_mix h a = own_mix h b) : a = b := by
  unfold own_mix at e
  have e2 : ((h ^^^ a) * (-1640531527 : Int32)) * 340573321 = ((h ^^^ b) * (-1640531527 : Int32)) * 340573321 := by rw [e]
  rw [Int32.mul_assoc, Int32.mul_assoc] at e2
  have hc : (-1640531527 : Int32) * 340573321 = 1 := by decide
  rw [hc, Int32.mul_one, Int32.mul_one] at e2
  have e3 : h ^^^ (h ^^^ a) = h ^^^ (h ^^^ b) := by rw [e2]
  rwa [← Int32.xor_assoc, ← Int32.xor_assoc, Int32.xor_self, Int32.zero_xor, Int32.zero_xor] at e3
theorem own_and3 (x : Int32) : x &&& (3 : Int32) = 0 ∨ x &&& (3 : Int32) = 1 ∨ x &&& (3 : Int32) = 2 ∨ x &&& (3 : Int32) = 3 := by
  have h := c_mask x 3 2 (by decide) (by decide)
  have h2 : (x &&& (3 : Int32)).toInt = 0 ∨ (x &&& (3 : Int32)).toInt = 1 ∨ (x &&& (3 : Int32)).toInt = 2 ∨ (x &&& (3 : Int32)).toInt = 3 := by omega
  rcases h2 with q | q | q | q
  · exact Or.inl (Int32.toInt_inj.mp q)
  · exact Or.inr (Or.inl (Int32.toInt_inj.mp q))
  · exact Or.inr (Or.inr (Or.inl (Int32.toInt_inj.mp q)))
  · exact Or.inr (Or.inr (Or.inr (Int32.toInt_inj.mp q)))
theorem d3_0 : decode jdk_30_method_1_code 0 = .ok (.aload_n 0, 1) := by decide +kernel
theorem d3_1 : decode jdk_30_method_1_code 1 = .ok (.invokespecial 1, 3) := by decide +kernel
theorem d3_4 : decode jdk_30_method_1_code 4 = .ok (.return_, 1) := by decide +kernel
theorem own_pn0 : plainName "java/lang/Record" = true := by first | (simp [plainName, overriddenIn]; done) | decide +kernel
theorem ef_rmRec (m : MethodId) (x0 : Addr) : entryFrame m #[(.ref x0)] 1 = mkF m 0 #[.val (.ref x0)] [] := by first | (simp [entryFrame, mkF, argsToLocals, Value.category]; done) | rfl
def Q_rmRec (Z : State) (r0 : Addr) (h0 : Heap) (n0 : Nat) (v : Option Value) (h : Heap) (L : List Loc) : Prop := v = none ∧ Fr n0 L ∧ h = h0
set_option maxRecDepth 65536 in
set_option maxHeartbeats 40000000 in
theorem rmRec (l : Launch) (Z : State) (a0 : Array Value) (hw : ∀ d ∈ tables_1, d.before a0 Z = true) (ws : List Jvm.Cond) (r0 : Addr) (h0 : Heap) (n0 : Nat) (Z0 : n0 ≤ h0.size)  :
    MetFree l (⟨"java/lang/Record", "<init>", "()V"⟩ : MethodName) (head1 (Jvm.Cond.code (⟨"java/lang/Record", "<init>", "()V"⟩ : MethodName) jdk_30_method_1_code 1 none :: ws) ({ frames := 1, cells := 0, slots := 0, locals := 12 } : Room)) (fun a U => a = #[(.ref r0)] ∧ Z.Warmed39 U.vm ∧ U.heap = h0) (fun _ _ _ _ _ => True) (fun _ U o U' => ∃ v L, o = .returned v ∧ Q_rmRec Z r0 h0 n0 v U'.heap L ∧ FrameEnd U o U' L ({ frames := 1, cells := 0, slots := 0, locals := 12 } : Room).cells ({ frames := 1, cells := 0, slots := 0, locals := 12 } : Room).slots) := by
  refine MetFree.of_bodySF (plainFor_of_name own_pn0) hisR ?_
  intro p e s m args below meth c s₁ Bd hml0 hP hK
  obtain ⟨rfl, hZ, hh⟩ := hP
  have hx := Bd.exec
  have hby := Bd.bytes
  have hml : c.maxLocals = 1 := hml0
  have hown : s.vm.findClass "java/lang/Record" = some m.cls := findClass_of_methodNamed Bd.named
  have hnm := (name_of_methodNamed Bd.named Bd.method).1
  have X0 : Stand p l e ({ frames := 1, cells := 0, slots := 0, locals := 12 } : Room) s m #[(.ref r0)] below meth c s₁ [] 0 0 := Stand.of_body Bd
  have e0 : s₁.heap = h0 := by rw [← hh, Bd.state]; rfl
  show own_Go p e below (s₁.setTop (entryFrame m #[(.ref r0)] 1)) (fun t o => ∃ v L, o = .returned v ∧ Q_rmRec Z r0 h0 n0 v t.heap L ∧ FrameEnd s o t L ({ frames := 1, cells := 0, slots := 0, locals := 12 } : Room).cells ({ frames := 1, cells := 0, slots := 0, locals := 12 } : Room).slots)
  refine own_by (B := s₁.setTop (mkF m 0 #[.val (.ref r0)] [])) (fun t k => castTop (ef_rmRec m r0) k) ?_
  have Nf := Fr.nil n0
  have Zs := Z0
  refine own_by (B := s₁.setTop (mkF m 1 #[.val (.ref r0)] [(.ref r0)])) (fun t k => XS.aloadN X0.here hx rfl (hb hby d3_0) rfl rfl k) ?_
  obtain ⟨T1, X1, e1, st1⟩ := initO X0 hx hZ hown (hw _ (List.mem_of_getElem? (i := 16) rfl)) (hw _ (List.mem_of_getElem? (i := 17) rfl)) (hw _ (List.mem_of_getElem? (i := 18) rfl)) e0 (g := (mkF m 1 #[.val (.ref r0)] [(.ref r0)])) rfl (by rw [hml]; rfl) rfl (hb hby d3_1) (by decide) (W := 0) (by show 2 * 0 + _ ≤ _; exact Nat.le_of_eq rfl) (by decide)
  refine own_by (B := T1.setTop (mkF m 4 #[.val (.ref r0)] [])) st1 ?_
  exact own_end X1 (v := none) (fun _ => rfl) (BodyLoose.notSynchronized Bd) (Q := (Q_rmRec Z r0 h0 n0)) (fun fs hr => X1.returnOut hx Bd.returns (hb hby d3_4) hr) (show (Q_rmRec Z r0 h0 n0) _ T1.heap _ from (by rw [e1]; exact ⟨rfl, Nf, rfl⟩)) (by decide) (by decide)
theorem own_pd0 : parseMethodDescriptor "()V" = some ⟨[], none⟩ := by decide +kernel
theorem d2_0 : decode prog_52_method_1_code 0 = .ok (.aload_n 0, 1) := by decide +kernel
theorem d2_1 : decode prog_52_method_1_code 1 = .ok (.invokespecial 1, 3) := by decide +kernel
theorem d2_4 : decode prog_52_method_1_code 4 = .ok (.aload_n 0, 1) := by decide +kernel
theorem d2_5 : decode prog_52_method_1_code 5 = .ok (.aload_n 1, 1) := by decide +kernel
theorem d2_6 : decode prog_52_method_1_code 6 = .ok (.putfield 7, 3) := by decide +kernel
theorem d2_9 : decode prog_52_method_1_code 9 = .ok (.return_, 1) := by decide +kernel
theorem own_pn1 : plainName "com/example/processes_as_trees/processesastrees/StateTuple" = true := by first | (simp [plainName, overriddenIn]; done) | decide +kernel
theorem ef_rmI (m : MethodId) (x0 : Addr) (x1 : Addr) : entryFrame m #[(.ref x0), (.ref x1)] 2 = mkF m 0 #[.val (.ref x0), .val (.ref x1)] [] := by first | (simp [entryFrame, mkF, argsToLocals, Value.category]; done) | rfl
def Q_rmI (Z : State) (r0 : Addr) (r1 : Addr) (h0 : Heap) (n0 : Nat) (v : Option Value) (h : Heap) (L : List Loc) : Prop := v = none ∧ Fr n0 L ∧ Keep h0 h [r0] ∧ Fld Z h r0 "com/example/processes_as_trees/processesastrees/StateTuple" "states" "[I" (.ref r1)
set_option maxRecDepth 65536 in
set_option maxHeartbeats 40000000 in
theorem rmI (l : Launch) (Z : State) (a0 : Array Value) (hw : ∀ d ∈ tables_1, d.before a0 Z = true) (ws : List Jvm.Cond) (r0 : Addr) (r1 : Addr) (h0 : Heap) (n0 : Nat) (Z0 : n0 ≤ h0.size) (E_r0 : Exa Z h0 r0 "com/example/processes_as_trees/processesastrees/StateTuple") (F_states_r0 : Fld Z h0 r0 "com/example/processes_as_trees/processesastrees/StateTuple" "states" "[I" .null) (g_r0 : n0 ≤ r0) :
    MetFree l (⟨"com/example/processes_as_trees/processesastrees/StateTuple", "<init>", "([I)V"⟩ : MethodName) (head1 (Jvm.Cond.code (⟨"com/example/processes_as_trees/processesastrees/StateTuple", "<init>", "([I)V"⟩ : MethodName) prog_52_method_1_code 2 none :: ws) ({ frames := 2, cells := 0, slots := 0, locals := 24 } : Room)) (fun a U => a = #[(.ref r0), (.ref r1)] ∧ Z.Warmed39 U.vm ∧ U.heap = h0) (fun _ _ _ _ _ => True) (fun _ U o U' => ∃ v L, o = .returned v ∧ Q_rmI Z r0 r1 h0 n0 v U'.heap L ∧ FrameEnd U o U' L ({ frames := 2, cells := 0, slots := 0, locals := 24 } : Room).cells ({ frames := 2, cells := 0, slots := 0, locals := 24 } : Room).slots) := by
  refine MetFree.of_bodySF (plainFor_of_name own_pn1) hisR ?_
  intro p e s m args below meth c s₁ Bd hml0 hP hK
  obtain ⟨rfl, hZ, hh⟩ := hP
  have hx := Bd.exec
  have hby := Bd.bytes
  have hml : c.maxLocals = 2 := hml0
  have hown : s.vm.findClass "com/example/processes_as_trees/processesastrees/StateTuple" = some m.cls := findClass_of_methodNamed Bd.named
  have hnm := (name_of_methodNamed Bd.named Bd.method).1
  have X0 : Stand p l e ({ frames := 2, cells := 0, slots := 0, locals := 24 } : Room) s m #[(.ref r0), (.ref r1)] below meth c s₁ [] 0 0 := Stand.of_body Bd
  have e0 : s₁.heap = h0 := by rw [← hh, Bd.state]; rfl
  show own_Go p e below (s₁.setTop (entryFrame m #[(.ref r0), (.ref r1)] 2)) (fun t o => ∃ v L, o = .returned v ∧ Q_rmI Z r0 r1 h0 n0 v t.heap L ∧ FrameEnd s o t L ({ frames := 2, cells := 0, slots := 0, locals := 24 } : Room).cells ({ frames := 2, cells := 0, slots := 0, locals := 24 } : Room).slots)
  refine own_by (B := s₁.setTop (mkF m 0 #[.val (.ref r0), .val (.ref r1)] [])) (fun t k => castTop (ef_rmI m r0 r1) k) ?_
  have Nf := Fr.nil n0
  have Zs := Z0
  have Kp := Keep.refl h0 [r0]
  refine own_by (B := s₁.setTop (mkF m 1 #[.val (.ref r0), .val (.ref r1)] [(.ref r0)])) (fun t k => XS.aloadN X0.here hx rfl (hb hby d2_0) rfl rfl k) ?_
  obtain ⟨_, _, ⟨T1, L1, k1, n1⟩, -, X1, ⟨Lc1, hQ1, l1, y1, z1⟩, st1⟩ := X0.specialBack hx (y := (⟨"java/lang/Record", "<init>", "()V"⟩ : MethodName)) rfl hown (mvT hZ (hw _ (List.mem_of_getElem? (i := 11) rfl))) (mvT hZ (hw _ (List.mem_of_getElem? (i := 12) rfl))) (mvT hZ (hw _ (List.mem_of_getElem? (i := 15) rfl))) (by decide) (backOf (W := 0) (rmRec l Z a0 hw [] r0 h0 n0 Zs) hZ (hw _ (List.mem_of_getElem? (i := 15) rfl)) (hw _ (List.mem_of_getElem? (i := 14) rfl)) (by decide) (by decide)) (g := (mkF m 1 #[.val (.ref r0), .val (.ref r1)] [(.ref r0)])) rfl (by rw [hml]; rfl) (Steps.refl _) (a := r0) (argsL := []) (rest := []) (lenOf own_pd0 rfl) rfl (by show 2 * 0 + _ ≤ _; exact Nat.le_of_eq rfl) (hb hby d2_1) (fun _ _ => ⟨rfl, e0, (by decide : 0 + 0 ≤ _), (by decide : 0 + 0 ≤ _)⟩)
  dsimp only [Pt.U, Pt.locs, Pt.cells, Pt.slots] at X1 l1 y1 z1 st1 hQ1
  subst l1 y1 z1
  obtain ⟨rfl, Nq1, hp1⟩ := hQ1
  have Nf := Fr.app Nf Nq1
  have ec1 : T1.heap = h0 := hp1
  refine own_by (B := T1.setTop (mkF m 4 #[.val (.ref r0), .val (.ref r1)] [])) (fun t k => st1.trans k) ?_
  refine own_by (B := T1.setTop (mkF m 5 #[.val (.ref r0), .val (.ref r1)] [(.ref r0)])) (fun t k => XS.aloadN X1.here hx rfl (hb hby d2_4) rfl rfl k) ?_
  refine own_by (B := T1.setTop (mkF m 6 #[.val (.ref r0), .val (.ref r1)] [(.ref r1), (.ref r0)])) (fun t k => XS.aloadN X1.here hx rfl (hb hby d2_5) rfl rfl k) ?_
  obtain ⟨T2, h2, X2, e2, W2, st2⟩ := putF X1 hx hZ hown (host := "") (Or.inl (hw _ (List.mem_of_getElem? (i := 19) rfl))) Via.refl ec1 F_states_r0 E_r0 (Or.inr ⟨(hw _ (List.mem_of_getElem? (i := 20) rfl)), rfl, hnm⟩) (hw _ (List.mem_of_getElem? (i := 6) rfl)) (ty := (.array .int)) (by decide) rfl rfl (g := (mkF m 6 #[.val (.ref r0), .val (.ref r1)] [(.ref r1), (.ref r0)])) rfl rfl (hb hby d2_6)
  have E_r0 := E_r0.wr W2
  have F_states_r0 := F_states_r0.same W2
  have Zs : n0 ≤ h2.size := by rw [W2.size]; exact Zs
  have Kp := Kp.wr W2 (Or.inl (List.mem_of_getElem? (i := 0) rfl))
  have Nf := Fr.snoc X2 Nf g_r0
  refine own_by (B := T2.setTop (mkF m 9 #[.val (.ref r0), .val (.ref r1)] [])) st2 ?_
  exact own_end X2 (v := none) (fun _ => rfl) (BodyLoose.notSynchronized Bd) (Q := (Q_rmI Z r0 r1 h0 n0)) (fun fs hr => X2.returnOut hx Bd.returns (hb hby d2_9) hr) (show (Q_rmI Z r0 r1 h0 n0) _ T2.heap _ from (by rw [e2]; exact ⟨rfl, Nf, Kp, F_states_r0⟩)) (by decide) (by decide)
theorem d1_0 : decode method_2_code 0 = .ok (.iload_n 0, 1) := by decide +kernel
theorem d1_1 : decode method_2_code 1 = .ok (.ifCond .ne 7, 3) := by decide +kernel
theorem d1_4 : decode method_2_code 4 = .ok (.iconst 0, 1) := by decide +kernel
theorem d1_5 : decode method_2_code 5 = .ok (.newarray .int, 2) := by decide +kernel
theorem d1_7 : decode method_2_code 7 = .ok (.areturn, 1) := by decide +kernel
theorem own_pn2 : plainName "com/example/processes_as_trees/processesastrees/StateTupleHashCodePinLaw" = true := by first | (simp [plainName, overriddenIn]; done) | decide +kernel
theorem ef_rmM0 (m : MethodId) (x0 : Int32) (x1 : Int32) (x2 : Int32) (x3 : Int32) : entryFrame m #[(.int x0), (.int x1), (.int x2), (.int x3)] 4 = mkF m 0 #[.val (.int x0), .val (.int x1), .val (.int x2), .val (.int x3)] [] := by first | (simp [entryFrame, mkF, argsToLocals, Value.category]; done) | rfl
def Q_rmM0 (Z : State) (i1 : Int32) (i2 : Int32) (i3 : Int32) (h0 : Heap) (n0 : Nat) (v : Option Value) (h : Heap) (L : List Loc) : Prop := v = some (.ref h0.size) ∧ Fr n0 L ∧ Keep h0 h [] ∧ ∃ f, own_Arf Z h h0.size .int (0 : Int32) f
set_option maxRecDepth 65536 in
set_option maxHeartbeats 40000000 in
theorem rmM0 (l : Launch) (Z : State) (a0 : Array Value) (hw : ∀ d ∈ tables_1, d.before a0 Z = true) (ws : List Jvm.Cond) (i1 : Int32) (i2 : Int32) (i3 : Int32) (h0 : Heap) (n0 : Nat) (Z0 : n0 ≤ h0.size)  :
    MetFree l (⟨"com/example/processes_as_trees/processesastrees/StateTupleHashCodePinLaw", "make", "(IIII)[I"⟩ : MethodName) (head1 (Jvm.Cond.code (⟨"com/example/processes_as_trees/processesastrees/StateTupleHashCodePinLaw", "make", "(IIII)[I"⟩ : MethodName) method_2_code 4 (some (.array .int)) :: ws) ({ frames := 0, cells := 1, slots := 0, locals := 0 } : Room)) (fun a U => a = #[(.int (0 : Int32)), (.int i1), (.int i2), (.int i3)] ∧ Z.Warmed39 U.vm ∧ U.heap = h0) (fun _ _ _ _ _ => True) (fun _ U o U' => ∃ v L, o = .returned v ∧ Q_rmM0 Z i1 i2 i3 h0 n0 v U'.heap L ∧ FrameEnd U o U' L ({ frames := 0, cells := 1, slots := 0, locals := 0 } : Room).cells ({ frames := 0, cells := 1, slots := 0, locals := 0 } : Room).slots) := by
  refine MetFree.of_bodySF (plainFor_of_name own_pn2) hisR ?_
  intro p e s m args below meth c s₁ Bd hml0 hP hK
  obtain ⟨rfl, hZ, hh⟩ := hP
  have hx := Bd.exec
  have hby := Bd.bytes
  have hml : c.maxLocals = 4 := hml0
  have hown : s.vm.findClass "com/example/processes_as_trees/processesastrees/StateTupleHashCodePinLaw" = some m.cls := findClass_of_methodNamed Bd.named
  have hnm := (name_of_methodNamed Bd.named Bd.method).1
  have X0 : Stand p l e ({ frames := 0, cells := 1, slots := 0, locals := 0 } : Room) s m #[(.int (0 : Int32)), (.int i1), (.int i2), (.int i3)] below meth c s₁ [] 0 0 := Stand.of_body Bd
  have e0 : s₁.heap = h0 := by rw [← hh, Bd.state]; rfl
  show own_Go p e below (s₁.setTop (entryFrame m #[(.int (0 : Int32)), (.int i1), (.int i2), (.int i3)] 4)) (fun t o => ∃ v L, o = .returned v ∧ Q_rmM0 Z i1 i2 i3 h0 n0 v t.heap L ∧ FrameEnd s o t L ({ frames := 0, cells := 1, slots := 0, locals := 0 } : Room).cells ({ frames := 0, cells := 1, slots := 0, locals := 0 } : Room).slots)
  refine own_by (B := s₁.setTop (mkF m 0 #[.val (.int (0 : Int32)), .val (.int i1), .val (.int i2), .val (.int i3)] [])) (fun t k => castTop (ef_rmM0 m (0 : Int32) i1 i2 i3) k) ?_
  have Nf := Fr.nil n0
  have Zs := Z0
  have Kp := Keep.refl h0 []
  refine own_by (B := s₁.setTop (mkF m 1 #[.val (.int (0 : Int32)), .val (.int i1), .val (.int i2), .val (.int i3)] [(.int (0 : Int32))])) (fun t k => XS.iloadN X0.here hx rfl (hb hby d1_0) rfl k) ?_
  refine own_by (B := s₁.setTop (mkF m 4 #[.val (.int (0 : Int32)), .val (.int i1), .val (.int i2), .val (.int i3)] [])) (fun t k => XS.ifNo X0.here hx rfl (hb hby d1_1) rfl ((if0 _ _).trans (teq (by decide)).2) k) ?_
  refine own_by (B := s₁.setTop (mkF m 5 #[.val (.int (0 : Int32)), .val (.int i1), .val (.int i2), .val (.int i3)] [(.int (0 : Int32))])) (fun t k => XS.iconst X0.here hx rfl (hb hby d1_4) k) ?_
  obtain ⟨T1, h1, k1, X1, e1, E1, A1, st1⟩ := newP X0 hx hZ (hw _ (List.mem_of_getElem? (i := 4) rfl)) e0 (g := (mkF m 5 #[.val (.int (0 : Int32)), .val (.int i1), .val (.int i2), .val (.int i3)] [(.int (0 : Int32))])) rfl (hb hby d1_5) rfl (by decide) (cap := 0) (by decide) (by decide) (by decide) (by decide)
  obtain ⟨b1, gq1⟩ : ∃ z, z = h0.size := ⟨_, rfl⟩
  rw [← gq1] at A1 st1
  have g_b1 : n0 ≤ b1 := Nat.le_trans Zs (Nat.le_of_eq gq1.symm)
  have sz_b1 : h0.size ≤ b1 := Nat.le_trans Kp.1 (Nat.le_of_eq gq1.symm)
  have Zs := Nat.le_trans Zs E1.1
  have Kp := Kp.ext E1
  have V_b1 := own_Arf.new A1 (by decide)
  refine own_by (B := T1.setTop (mkF m 7 #[.val (.int (0 : Int32)), .val (.int i1), .val (.int i2), .val (.int i3)] [(.ref b1)])) st1 ?_
  exact own_end X1 (v := some (.ref b1)) (fun h => by rw [Bd.returns] at h; cases h) (BodyLoose.notSynchronized Bd) (Q := (Q_rmM0 Z i1 i2 i3 h0 n0)) (fun fs hr => retOut X1 hx (t := (.array .int)) Bd.returns rfl (Or.inr (Or.inr (Or.inr (Or.inr ⟨rfl, rfl, rfl⟩)))) (hb hby d1_7) hr) (show (Q_rmM0 Z i1 i2 i3 h0 n0) _ T1.heap _ from (by rw [e1]; exact ⟨by rw [gq1], Nf, Kp, _, by rw [← gq1]; exact V_b1⟩)) (by decide) (by decide)
theorem d1_8 : decode method_2_code 8 = .ok (.iload_n 0, 1) := by decide +kernel
theorem d1_9 : decode method_2_code 9 = .ok (.iconst 1, 1) := by decide +kernel
theorem d1_10 : decode method_2_code 10 = .ok (.if_icmp .ne 11, 3) := by decide +kernel
theorem d1_13 : decode method_2_code 13 = .ok (.iconst 1, 1) := by decide +kernel
theorem d1_14 : decode method_2_code 14 = .ok (.newarray .int, 2) := by decide +kernel
theorem d1_16 : decode method_2_code 16 = .ok (.dup, 1) := by decide +kernel
theorem d1_17 : decode method_2_code 17 = .ok (.iconst 0, 1) := by decide +kernel
theorem d1_18 : decode method_2_code 18 = .ok (.iload_n 1, 1) := by decide +kernel
theorem d1_19 : decode method_2_code 19 = .ok (.iastore, 1) := by decide +kernel
theorem d1_20 : decode method_2_code 20 = .ok (.areturn, 1) := by decide +kernel
theorem ef_rmM1 (m : MethodId) (x0 : Int32) (x1 : Int32) (x2 : Int32) (x3 : Int32) : entryFrame m #[(.int x0), (.int x1), (.int x2), (.int x3)] 4 = mkF m 0 #[.val (.int x0), .val (.int x1), .val (.int x2), .val (.int x3)] [] := by first | (simp [entryFrame, mkF, argsToLocals, Value.category]; done) | rfl
def Q_rmM1 (Z : State) (i1 : Int32) (i2 : Int32) (i3 : Int32) (h0 : Heap) (n0 : Nat) (v : Option Value) (h : Heap) (L : List Loc) : Prop := v = some (.ref h0.size) ∧ Fr n0 L ∧ Keep h0 h [] ∧ ∃ f, own_Arf Z h h0.size .int (1 : Int32) f ∧ f 0 = .int i1
set_option maxRecDepth 65536 in
set_option maxHeartbeats 40000000 in
theorem rmM1 (l : Launch) (Z : State) (a0 : Array Value) (hw : ∀ d ∈ tables_1, d.before a0 Z = true) (ws : List Jvm.Cond) (i1 : Int32) (i2 : Int32) (i3 : Int32) (h0 : Heap) (n0 : Nat) (Z0 : n0 ≤ h0.size)  :
    MetFree l (⟨"com/example/processes_as_trees/processesastrees/StateTupleHashCodePinLaw", "make", "(IIII)[I"⟩ : MethodName) (head1 (Jvm.Cond.code (⟨"com/example/processes_as_trees/processesastrees/StateTupleHashCodePinLaw", "make", "(IIII)[I"⟩ : MethodName) method_2_code 4 (some (.array .int)) :: ws) ({ frames := 0, cells := 1, slots := 1, locals := 0 } : Room)) (fun a U => a = #[(.int (1 : Int32)), (.int i1), (.int i2), (.int i3)] ∧ Z.Warmed39 U.vm ∧ U.heap = h0) (fun _ _ _ _ _ => True) (fun _ U o U' => ∃ v L, o = .returned v ∧ Q_rmM1 Z i1 i2 i3 h0 n0 v U'.heap L ∧ FrameEnd U o U' L ({ frames := 0, cells := 1, slots := 1, locals := 0 } : Room).cells ({ frames := 0, cells := 1, slots := 1, locals := 0 } : Room).slots) := by
  refine MetFree.of_bodySF (plainFor_of_name own_pn2) hisR ?_
  intro p e s m args below meth c s₁ Bd hml0 hP hK
  obtain ⟨rfl, hZ, hh⟩ := hP
  have hx := Bd.exec
  have hby := Bd.bytes
  have hml : c.maxLocals = 4 := hml0
  have hown : s.vm.findClass "com/example/processes_as_trees/processesastrees/StateTupleHashCodePinLaw" = some m.cls := findClass_of_methodNamed Bd.named
  have hnm := (name_of_methodNamed Bd.named Bd.method).1
  have X0 : Stand p l e ({ frames := 0, cells := 1, slots := 1, locals := 0 } : Room) s m #[(.int (1 : Int32)), (.int i1), (.int i2), (.int i3)] below meth c s₁ [] 0 0 := Stand.of_body Bd
  have e0 : s₁.heap = h0 := by rw [← hh, Bd.state]; rfl
  show own_Go p e below (s₁.setTop (entryFrame m #[(.int (1 : Int32)), (.int i1), (.int i2), (.int i3)] 4)) (fun t o => ∃ v L, o = .returned v ∧ Q_rmM1 Z i1 i2 i3 h0 n0 v t.heap L ∧ FrameEnd s o t L ({ frames := 0, cells := 1, slots := 1, locals := 0 } : Room).cells ({ frames := 0, cells := 1, slots := 1, locals := 0 } : Room).slots)
  refine own_by (B := s₁.setTop (mkF m 0 #[.val (.int (1 : Int32)), .val (.int i1), .val (.int i2), .val (.int i3)] [])) (fun t k => castTop (ef_rmM1 m (1 : Int32) i1 i2 i3) k) ?_
  have Nf := Fr.nil n0
  have Zs := Z0
  have Kp := Keep.refl h0 []
  refine own_by (B := s₁.setTop (mkF m 1 #[.val (.int (1 : Int32)), .val (.int i1), .val (.int i2), .val (.int i3)] [(.int (1 : Int32))])) (fun t k => XS.iloadN X0.here hx rfl (hb hby d1_0) rfl k) ?_
  refine own_by (B := s₁.setTop (mkF m 8 #[.val (.int (1 : Int32)), .val (.int i1), .val (.int i2), .val (.int i3)] [])) (fun t k => XS.ifYes X0.here hx rfl (pc0 := 1) (pc' := 8) rfl (hb hby d1_1) rfl ((if0 _ _).trans (feq (by decide)).2) (by decide) (by decide) k) ?_
  refine own_by (B := s₁.setTop (mkF m 9 #[.val (.int (1 : Int32)), .val (.int i1), .val (.int i2), .val (.int i3)] [(.int (1 : Int32))])) (fun t k => XS.iloadN X0.here hx rfl (hb hby d1_8) rfl k) ?_
  refine own_by (B := s₁.setTop (mkF m 10 #[.val (.int (1 : Int32)), .val (.int i1), .val (.int i2), .val (.int i3)] [(.int (1 : Int32)), (.int (1 : Int32))])) (fun t k => XS.iconst X0.here hx rfl (hb hby d1_9) k) ?_
  refine own_by (B := s₁.setTop (mkF m 13 #[.val (.int (1 : Int32)), .val (.int i1), .val (.int i2), .val (.int i3)] [])) (fun t k => XS.icmpNo X0.here hx rfl (hb hby d1_10) rfl (teq (by decide)).2 k) ?_
  refine own_by (B := s₁.setTop (mkF m 14 #[.val (.int (1 : Int32)), .val (.int i1), .val (.int i2), .val (.int i3)] [(.int (1 : Int32))])) (fun t k => XS.iconst X0.here hx rfl (hb hby d1_13) k) ?_
  obtain ⟨T1, h1, k1, X1, e1, E1, A1, st1⟩ := newP X0 hx hZ (hw _ (List.mem_of_getElem? (i := 4) rfl)) e0 (g := (mkF m 14 #[.val (.int (1 : Int32)), .val (.int i1), .val (.int i2), .val (.int i3)] [(.int (1 : Int32))])) rfl (hb hby d1_14) rfl (by decide) (cap := 1) (by decide) (by decide) (by decide) (by decide)
  obtain ⟨b1, gq1⟩ : ∃ z, z = h0.size := ⟨_, rfl⟩
  rw [← gq1] at A1 st1
  have g_b1 : n0 ≤ b1 := Nat.le_trans Zs (Nat.le_of_eq gq1.symm)
  have sz_b1 : h0.size ≤ b1 := Nat.le_trans Kp.1 (Nat.le_of_eq gq1.symm)
  have Zs := Nat.le_trans Zs E1.1
  have Kp := Kp.ext E1
  have V_b1 := own_Arf.new A1 (by decide)
  refine own_by (B := T1.setTop (mkF m 16 #[.val (.int (1 : Int32)), .val (.int i1), .val (.int i2), .val (.int i3)] [(.ref b1)])) st1 ?_
  refine own_by (B := T1.setTop (mkF m 17 #[.val (.int (1 : Int32)), .val (.int i1), .val (.int i2), .val (.int i3)] [(.ref b1), (.ref b1)])) (fun t k => XS.dup X1.here hx rfl (hb hby d1_16) rfl rfl k) ?_
  refine own_by (B := T1.setTop (mkF m 18 #[.val (.int (1 : Int32)), .val (.int i1), .val (.int i2), .val (.int i3)] [(.int (0 : Int32)), (.ref b1), (.ref b1)])) (fun t k => XS.iconst X1.here hx rfl (hb hby d1_17) k) ?_
  refine own_by (B := T1.setTop (mkF m 19 #[.val (.int (1 : Int32)), .val (.int i1), .val (.int i2), .val (.int i3)] [(.int i1), (.int (0 : Int32)), (.ref b1), (.ref b1)])) (fun t k => XS.iloadN X1.here hx rfl (hb hby d1_18) rfl k) ?_
  obtain ⟨cl2, Ar2, hin2, -⟩ := V_b1.at (j := (0 : Int32)) ⟨by decide, by decide⟩
  obtain ⟨T2, h2, X2, e2, W2, st2⟩ := stI X1 hx hZ e1 Ar2 (j := (0 : Int32)) hin2 (g := (mkF m 19 #[.val (.int (1 : Int32)), .val (.int i1), .val (.int i2), .val (.int i3)] [(.int i1), (.int (0 : Int32)), (.ref b1), (.ref b1)])) rfl rfl (hb hby d1_19)
  have V_b1 := V_b1.set W2
  have Zs : n0 ≤ h2.size := by rw [W2.size]; exact Zs
  have Kp := Kp.wr W2 (Or.inr sz_b1)
  have Nf := Fr.snoc X2 Nf g_b1
  refine own_by (B := T2.setTop (mkF m 20 #[.val (.int (1 : Int32)), .val (.int i1), .val (.int i2), .val (.int i3)] [(.ref b1)])) st2 ?_
  exact own_end X2 (v := some (.ref b1)) (fun h => by rw [Bd.returns] at h; cases h) (BodyLoose.notSynchronized Bd) (Q := (Q_rmM1 Z i1 i2 i3 h0 n0)) (fun fs hr => retOut X2 hx (t := (.array .int)) Bd.returns rfl (Or.inr (Or.inr (Or.inr (Or.inr ⟨rfl, rfl, rfl⟩)))) (hb hby d1_20) hr) (show (Q_rmM1 Z i1 i2 i3 h0 n0) _ T2.heap _ from (by rw [e2]; exact ⟨by rw [gq1], Nf, Kp, _, by rw [← gq1]; exact V_b1, rfl⟩)) (by decide) (by decide)
theorem d1_21 : decode method_2_code 21 = .ok (.iload_n 0, 1) := by decide +kernel
theorem d1_22 : decode method_2_code 22 = .ok (.iconst 2, 1) := by decide +kernel
theorem d1_23 : decode method_2_code 23 = .ok (.if_icmp .ne 15, 3) := by decide +kernel
theorem d1_26 : decode method_2_code 26 = .ok (.iconst 2, 1) := by decide +kernel
theorem d1_27 : decode method_2_code 27 = .ok (.newarray .int, 2) := by decide +kernel
theorem d1_29 : decode method_2_code 29 = .ok (.dup, 1) := by decide +kernel
theorem d1_30 : decode method_2_code 30 = .ok (.iconst 0, 1) := by decide +kernel
theorem d1_31 : decode method_2_code 31 = .ok (.iload_n 1, 1) := by decide +kernel
theorem d1_32 : decode method_2_code 32 = .ok (.iastore, 1) := by decide +kernel
theorem d1_33 : decode method_2_code 33 = .ok (.dup, 1) := by decide +kernel
theorem d1_34 : decode method_2_code 34 = .ok (.iconst 1, 1) := by decide +kernel
theorem d1_35 : decode method_2_code 35 = .ok (.iload_n 2, 1) := by decide +kernel
theorem d1_36 : decode method_2_code 36 = .ok (.iastore, 1) := by decide +kernel
theorem d1_37 : decode method_2_code 37 = .ok (.areturn, 1) := by decide +kernel
theorem ef_rmM2 (m : MethodId) (x0 : Int32) (x1 : Int32) (x2 : Int32) (x3 : Int32) : entryFrame m #[(.int x0), (.int x1), (.int x2), (.int x3)] 4 = mkF m 0 #[.val (.int x0), .val (.int x1), .val (.int x2), .val (.int x3)] [] := by first | (simp [entryFrame, mkF, argsToLocals, Value.category]; done) | rfl
def Q_rmM2 (Z : State) (i1 : Int32) (i2 : Int32) (i3 : Int32) (h0 : Heap) (n0 : Nat) (v : Option Value) (h : Heap) (L : List Loc) : Prop := v = some (.ref h0.size) ∧ Fr n0 L ∧ Keep h0 h [] ∧ ∃ f, own_Arf Z h h0.size .int (2 : Int32) f ∧ f 0 = .int i1 ∧ f 1 = .int i2
set_option maxRecDepth 65536 in
set_option maxHeartbeats 40000000 in
theorem rmM2 (l : Launch) (Z : State) (a0 : Array Value) (hw : ∀ d ∈ tables_1, d.before a0 Z = true) (ws : List Jvm.Cond) (i1 : Int32) (i2 : Int32) (i3 : Int32) (h0 : Heap) (n0 : Nat) (Z0 : n0 ≤ h0.size)  :
    MetFree l (⟨"com/example/processes_as_trees/processesastrees/StateTupleHashCodePinLaw", "make", "(IIII)[I"⟩ : MethodName) (head1 (Jvm.Cond.code (⟨"com/example/processes_as_trees/processesastrees/StateTupleHashCodePinLaw", "make", "(IIII)[I"⟩ : MethodName) method_2_code 4 (some (.array .int)) :: ws) ({ frames := 0, cells := 1, slots := 2, locals := 0 } : Room)) (fun a U => a = #[(.int (2 : Int32)), (.int i1), (.int i2), (.int i3)] ∧ Z.Warmed39 U.vm ∧ U.heap = h0) (fun _ _ _ _ _ => True) (fun _ U o U' => ∃ v L, o = .returned v ∧ Q_rmM2 Z i1 i2 i3 h0 n0 v U'.heap L ∧ FrameEnd U o U' L ({ frames := 0, cells := 1, slots := 2, locals := 0 } : Room).cells ({ frames := 0, cells := 1, slots := 2, locals := 0 } : Room).slots) := by
  refine MetFree.of_bodySF (plainFor_of_name own_pn2) hisR ?_
  intro p e s m args below meth c s₁ Bd hml0 hP hK
  obtain ⟨rfl, hZ, hh⟩ := hP
  have hx := Bd.exec
  have hby := Bd.bytes
  have hml : c.maxLocals = 4 := hml0
  have hown : s.vm.findClass "com/example/processes_as_trees/processesastrees/StateTupleHashCodePinLaw" = some m.cls := findClass_of_methodNamed Bd.named
  have hnm := (name_of_methodNamed Bd.named Bd.method).1
  have X0 : Stand p l e ({ frames := 0, cells := 1, slots := 2, locals := 0 } : Room) s m #[(.int (2 : Int32)), (.int i1), (.int i2), (.int i3)] below meth c s₁ [] 0 0 := Stand.of_body Bd
  have e0 : s₁.heap = h0 := by rw [← hh, Bd.state]; rfl
  show own_Go p e below (s₁.setTop (entryFrame m #[(.int (2 : Int32)), (.int i1), (.int i2), (.int i3)] 4)) (fun t o => ∃ v L, o = .returned v ∧ Q_rmM2 Z i1 i2 i3 h0 n0 v t.heap L ∧ FrameEnd s o t L ({ frames := 0, cells := 1, slots := 2, locals := 0 } : Room).cells ({ frames := 0, cells := 1, slots := 2, locals := 0 } : Room).slots)
  refine own_by (B := s₁.setTop (mkF m 0 #[.val (.int (2 : Int32)), .val (.int i1), .val (.int i2), .val (.int i3)] [])) (fun t k => castTop (ef_rmM2 m (2 : Int32) i1 i2 i3) k) ?_
  have Nf := Fr.nil n0
  have Zs := Z0
  have Kp := Keep.refl h0 []
  refine own_by (B := s₁.setTop (mkF m 1 #[.val (.int (2 : Int32)), .val (.int i1), .val (.int i2), .val (.int i3)] [(.int (2 : Int32))])) (fun t k => XS.iloadN X0.here hx rfl (hb hby d1_0) rfl k) ?_
  refine own_by (B := s₁.setTop (mkF m 8 #[.val (.int (2 : Int32)), .val (.int i1), .val (.int i2), .val (.int i3)] [])) (fun t k => XS.ifYes X0.here hx rfl (pc0 := 1) (pc' := 8) rfl (hb hby d1_1) rfl ((if0 _ _).trans (feq (by decide)).2) (by decide) (by decide) k) ?_
  refine own_by (B := s₁.setTop (mkF m 9 #[.val (.int (2 : Int32)), .val (.int i1), .val (.int i2), .val (.int i3)] [(.int (2 : Int32))])) (fun t k => XS.iloadN X0.here hx rfl (hb hby d1_8) rfl k) ?_
  refine own_by (B := s₁.setTop (mkF m 10 #[.val (.int (2 : Int32)), .val (.int i1), .val (.int i2), .val (.int i3)] [(.int (1 : Int32)), (.int (2 : Int32))])) (fun t k => XS.iconst X0.here hx rfl (hb hby d1_9) k) ?_
  refine own_by (B := s₁.setTop (mkF m 21 #[.val (.int (2 : Int32)), .val (.int i1), .val (.int i2), .val (.int i3)] [])) (fun t k => XS.icmpYes X0.here hx rfl (pc0 := 10) (pc' := 21) rfl (hb hby d1_10) rfl (feq (by decide)).2 (by decide) (by decide) k) ?_
  refine own_by (B := s₁.setTop (mkF m 22 #[.val (.int (2 : Int32)), .val (.int i1), .val (.int i2), .val (.int i3)] [(.int (2 : Int32))])) (fun t k => XS.iloadN X0.here hx rfl (hb hby d1_21) rfl k) ?_
  refine own_by (B := s₁.setTop (mkF m 23 #[.val (.int (2 : Int32)), .val (.int i1), .val (.int i2), .val (.int i3)] [(.int (2 : Int32)), (.int (2 : Int32))])) (fun t k => XS.iconst X0.here hx rfl (hb hby d1_22) k) ?_
  refine own_by (B := s₁.setTop (mkF m 26 #[.val (.int (2 : Int32)), .val (.int i1), .val (.int i2), .val (.int i3)] [])) (fun t k => XS.icmpNo X0.here hx rfl (hb hby d1_23) rfl (teq (by decide)).2 k) ?_
  refine own_by (B := s₁.setTop (mkF m 27 #[.val (.int (2 : Int32)), .val (.int i1), .val (.int i2), .val (.int i3)] [(.int (2 : Int32))])) (fun t k => XS.iconst X0.here hx rfl (hb hby d1_26) k) ?_
  obtain ⟨T1, h1, k1, X1, e1, E1, A1, st1⟩ := newP X0 hx hZ (hw _ (List.mem_of_getElem? (i := 4) rfl)) e0 (g := (mkF m 27 #[.val (.int (2 : Int32)), .val (.int i1), .val (.int i2), .val (.int i3)] [(.int (2 : Int32))])) rfl (hb hby d1_27) rfl (by decide) (cap := 2) (by decide) (by decide) (by decide) (by decide)
  obtain ⟨b1, gq1⟩ : ∃ z, z = h0.size := ⟨_, rfl⟩
  rw [← gq1] at A1 st1
  have g_b1 : n0 ≤ b1 := Nat.le_trans Zs (Nat.le_of_eq gq1.symm)
  have sz_b1 : h0.size ≤ b1 := Nat.le_trans Kp.1 (Nat.le_of_eq gq1.symm)
  have Zs := Nat.le_trans Zs E1.1
  have Kp := Kp.ext E1
  have V_b1 := own_Arf.new A1 (by decide)
  refine own_by (B := T1.setTop (mkF m 29 #[.val (.int (2 : Int32)), .val (.int i1), .val (.int i2), .val (.int i3)] [(.ref b1)])) st1 ?_
  refine own_by (B := T1.setTop (mkF m 30 #[.val (.int (2 : Int32)), .val (.int i1), .val (.int i2), .val (.int i3)] [(.ref b1), (.ref b1)])) (fun t k => XS.dup X1.here hx rfl (hb hby d1_29) rfl rfl k) ?_
  refine own_by (B := T1.setTop (mkF m 31 #[.val (.int (2 : Int32)), .val (.int i1), .val (.int i2), .val (.int i3)] [(.int (0 : Int32)), (.ref b1), (.ref b1)])) (fun t k => XS.iconst X1.here hx rfl (hb hby d1_30) k) ?_
  refine own_by (B := T1.setTop (mkF m 32 #[.val (.int (2 : Int32)), .val (.int i1), .val (.int i2), .val (.int i3)] [(.int i1), (.int (0 : Int32)), (.ref b1), (.ref b1)])) (fun t k => XS.iloadN X1.here hx rfl (hb hby d1_31) rfl k) ?_
  obtain ⟨cl2, Ar2, hin2, -⟩ := V_b1.at (j := (0 : Int32)) ⟨by decide, by decide⟩
  obtain ⟨T2, h2, X2, e2, W2, st2⟩ := stI X1 hx hZ e1 Ar2 (j := (0 : Int32)) hin2 (g := (mkF m 32 #[.val (.int (2 : Int32)), .val (.int i1), .val (.int i2), .val (.int i3)] [(.int i1), (.int (0 : Int32)), (.ref b1), (.ref b1)])) rfl rfl (hb hby d1_32)
  have V_b1 := V_b1.set W2
  have Zs : n0 ≤ h2.size := by rw [W2.size]; exact Zs
  have Kp := Kp.wr W2 (Or.inr sz_b1)
  have Nf := Fr.snoc X2 Nf g_b1
  refine own_by (B := T2.setTop (mkF m 33 #[.val (.int (2 : Int32)), .val (.int i1), .val (.int i2), .val (.int i3)] [(.ref b1)])) st2 ?_
  refine own_by (B := T2.setTop (mkF m 34 #[.val (.int (2 : Int32)), .val (.int i1), .val (.int i2), .val (.int i3)] [(.ref b1), (.ref b1)])) (fun t k => XS.dup X2.here hx rfl (hb hby d1_33) rfl rfl k) ?_
  refine own_by (B := T2.setTop (mkF m 35 #[.val (.int (2 : Int32)), .val (.int i1), .val (.int i2), .val (.int i3)] [(.int (1 : Int32)), (.ref b1), (.ref b1)])) (fun t k => XS.iconst X2.here hx rfl (hb hby d1_34) k) ?_
  refine own_by (B := T2.setTop (mkF m 36 #[.val (.int (2 : Int32)), .val (.int i1), .val (.int i2), .val (.int i3)] [(.int i2), (.int (1 : Int32)), (.ref b1), (.ref b1)])) (fun t k => XS.iloadN X2.here hx rfl (hb hby d1_35) rfl k) ?_
  obtain ⟨cl3, Ar3, hin3, -⟩ := V_b1.at (j := (1 : Int32)) ⟨by decide, by decide⟩
  obtain ⟨T3, h3, X3, e3, W3, st3⟩ := stI X2 hx hZ e2 Ar3 (j := (1 : Int32)) hin3 (g := (mkF m 36 #[.val (.int (2 : Int32)), .val (.int i1), .val (.int i2), .val (.int i3)] [(.int i2), (.int (1 : Int32)), (.ref b1), (.ref b1)])) rfl rfl (hb hby d1_36)
  have V_b1 := V_b1.set W3
  have Zs : n0 ≤ h3.size := by rw [W3.size]; exact Zs
  have Kp := Kp.wr W3 (Or.inr sz_b1)
  have Nf := Fr.snoc X3 Nf g_b1
  refine own_by (B := T3.setTop (mkF m 37 #[.val (.int (2 : Int32)), .val (.int i1), .val (.int i2), .val (.int i3)] [(.ref b1)])) st3 ?_
  exact own_end X3 (v := some (.ref b1)) (fun h => by rw [Bd.returns] at h; cases h) (BodyLoose.notSynchronized Bd) (Q := (Q_rmM2 Z i1 i2 i3 h0 n0)) (fun fs hr => retOut X3 hx (t := (.array .int)) Bd.returns rfl (Or.inr (Or.inr (Or.inr (Or.inr ⟨rfl, rfl, rfl⟩)))) (hb hby d1_37) hr) (show (Q_rmM2 Z i1 i2 i3 h0 n0) _ T3.heap _ from (by rw [e3]; exact ⟨by rw [gq1], Nf, Kp, _, by rw [← gq1]; exact V_b1, rfl, rfl⟩)) (by decide) (by decide)
theorem d1_38 : decode method_2_code 38 = .ok (.iconst 3, 1) := by decide +kernel
theorem d1_39 : decode method_2_code 39 = .ok (.newarray .int, 2) := by decide +kernel
theorem d1_41 : decode method_2_code 41 = .ok (.dup, 1) := by decide +kernel
theorem d1_42 : decode method_2_code 42 = .ok (.iconst 0, 1) := by decide +kernel
theorem d1_43 : decode method_2_code 43 = .ok (.iload_n 1, 1) := by decide +kernel
theorem d1_44 : decode method_2_code 44 = .ok (.iastore, 1) := by decide +kernel
theorem d1_45 : decode method_2_code 45 = .ok (.dup, 1) := by decide +kernel
theorem d1_46 : decode method_2_code 46 = .ok (.iconst 1, 1) := by decide +kernel
theorem d1_47 : decode method_2_code 47 = .ok (.iload_n 2, 1) := by decide +kernel
theorem d1_48 : decode method_2_code 48 = .ok (.iastore, 1) := by decide +kernel
theorem d1_49 : decode method_2_code 49 = .ok (.dup, 1) := by decide +kernel
theorem d1_50 : decode method_2_code 50 = .ok (.iconst 2, 1) := by decide +kernel
theorem d1_51 : decode method_2_code 51 = .ok (.iload_n 3, 1) := by decide +kernel
theorem d1_52 : decode method_2_code 52 = .ok (.iastore, 1) := by decide +kernel
theorem d1_53 : decode method_2_code 53 = .ok (.areturn, 1) := by decide +kernel
theorem ef_rmM3 (m : MethodId) (x0 : Int32) (x1 : Int32) (x2 : Int32) (x3 : Int32) : entryFrame m #[(.int x0), (.int x1), (.int x2), (.int x3)] 4 = mkF m 0 #[.val (.int x0), .val (.int x1), .val (.int x2), .val (.int x3)] [] := by first | (simp [entryFrame, mkF, argsToLocals, Value.category]; done) | rfl
def Q_rmM3 (Z : State) (i1 : Int32) (i2 : Int32) (i3 : Int32) (h0 : Heap) (n0 : Nat) (v : Option Value) (h : Heap) (L : List Loc) : Prop := v = some (.ref h0.size) ∧ Fr n0 L ∧ Keep h0 h [] ∧ ∃ f, own_Arf Z h h0.size .int (3 : Int32) f ∧ f 0 = .int i1 ∧ f 1 = .int i2 ∧ f 2 = .int i3
set_option maxRecDepth 65536 in
set_option maxHeartbeats 40000000 in
theorem rmM3 (l : Launch) (Z : State) (a0 : Array Value) (hw : ∀ d ∈ tables_1, d.before a0 Z = true) (ws : List Jvm.Cond) (i1 : Int32) (i2 : Int32) (i3 : Int32) (h0 : Heap) (n0 : Nat) (Z0 : n0 ≤ h0.size)  :
    MetFree l (⟨"com/example/processes_as_trees/processesastrees/StateTupleHashCodePinLaw", "make", "(IIII)[I"⟩ : MethodName) (head1 (Jvm.Cond.code (⟨"com/example/processes_as_trees/processesastrees/StateTupleHashCodePinLaw", "make", "(IIII)[I"⟩ : MethodName) method_2_code 4 (some (.array .int)) :: ws) ({ frames := 0, cells := 1, slots := 3, locals := 0 } : Room)) (fun a U => a = #[(.int (3 : Int32)), (.int i1), (.int i2), (.int i3)] ∧ Z.Warmed39 U.vm ∧ U.heap = h0) (fun _ _ _ _ _ => True) (fun _ U o U' => ∃ v L, o = .returned v ∧ Q_rmM3 Z i1 i2 i3 h0 n0 v U'.heap L ∧ FrameEnd U o U' L ({ frames := 0, cells := 1, slots := 3, locals := 0 } : Room).cells ({ frames := 0, cells := 1, slots := 3, locals := 0 } : Room).slots) := by
  refine MetFree.of_bodySF (plainFor_of_name own_pn2) hisR ?_
  intro p e s m args below meth c s₁ Bd hml0 hP hK
  obtain ⟨rfl, hZ, hh⟩ := hP
  have hx := Bd.exec
  have hby := Bd.bytes
  have hml : c.maxLocals = 4 := hml0
  have hown : s.vm.findClass "com/example/processes_as_trees/processesastrees/StateTupleHashCodePinLaw" = some m.cls := findClass_of_methodNamed Bd.named
  have hnm := (name_of_methodNamed Bd.named Bd.method).1
  have X0 : Stand p l e ({ frames := 0, cells := 1, slots := 3, locals := 0 } : Room) s m #[(.int (3 : Int32)), (.int i1), (.int i2), (.int i3)] below meth c s₁ [] 0 0 := Stand.of_body Bd
  have e0 : s₁.heap = h0 := by rw [← hh, Bd.state]; rfl
  show own_Go p e below (s₁.setTop (entryFrame m #[(.int (3 : Int32)), (.int i1), (.int i2), (.int i3)] 4)) (fun t o => ∃ v L, o = .returned v ∧ Q_rmM3 Z i1 i2 i3 h0 n0 v t.heap L ∧ FrameEnd s o t L ({ frames := 0, cells := 1, slots := 3, locals := 0 } : Room).cells ({ frames := 0, cells := 1, slots := 3, locals := 0 } : Room).slots)
  refine own_by (B := s₁.setTop (mkF m 0 #[.val (.int (3 : Int32)), .val (.int i1), .val (.int i2), .val (.int i3)] [])) (fun t k => castTop (ef_rmM3 m (3 : Int32) i1 i2 i3) k) ?_
  have Nf := Fr.nil n0
  have Zs := Z0
  have Kp := Keep.refl h0 []
  refine own_by (B := s₁.setTop (mkF m 1 #[.val (.int (3 : Int32)), .val (.int i1), .val (.int i2), .val (.int i3)] [(.int (3 : Int32))])) (fun t k => XS.iloadN X0.here hx rfl (hb hby d1_0) rfl k) ?_
  refine own_by (B := s₁.setTop (mkF m 8 #[.val (.int (3 : Int32)), .val (.int i1), .val (.int i2), .val (.int i3)] [])) (fun t k => XS.ifYes X0.here hx rfl (pc0 := 1) (pc' := 8) rfl (hb hby d1_1) rfl ((if0 _ _).trans (feq (by decide)).2) (by decide) (by decide) k) ?_
  refine own_by (B := s₁.setTop (mkF m 9 #[.val (.int (3 : Int32)), .val (.int i1), .val (.int i2), .val (.int i3)] [(.int (3 : Int32))])) (fun t k => XS.iloadN X0.here hx rfl (hb hby d1_8) rfl k) ?_
  refine own_by (B := s₁.setTop (mkF m 10 #[.val (.int (3 : Int32)), .val (.int i1), .val (.int i2), .val (.int i3)] [(.int (1 : Int32)), (.int (3 : Int32))])) (fun t k => XS.iconst X0.here hx rfl (hb hby d1_9) k) ?_
  refine own_by (B := s₁.setTop (mkF m 21 #[.val (.int (3 : Int32)), .val (.int i1), .val (.int i2), .val (.int i3)] [])) (fun t k => XS.icmpYes X0.here hx rfl (pc0 := 10) (pc' := 21) rfl (hb hby d1_10) rfl (feq (by decide)).2 (by decide) (by decide) k) ?_
  refine own_by (B := s₁.setTop (mkF m 22 #[.val (.int (3 : Int32)), .val (.int i1), .val (.int i2), .val (.int i3)] [(.int (3 : Int32))])) (fun t k => XS.iloadN X0.here hx rfl (hb hby d1_21) rfl k) ?_
  refine own_by (B := s₁.setTop (mkF m 23 #[.val (.int (3 : Int32)), .val (.int i1), .val (.int i2), .val (.int i3)] [(.int (2 : Int32)), (.int (3 : Int32))])) (fun t k => XS.iconst X0.here hx rfl (hb hby d1_22) k) ?_
  refine own_by (B := s₁.setTop (mkF m 38 #[.val (.int (3 : Int32)), .val (.int i1), .val (.int i2), .val (.int i3)] [])) (fun t k => XS.icmpYes X0.here hx rfl (pc0 := 23) (pc' := 38) rfl (hb hby d1_23) rfl (feq (by decide)).2 (by decide) (by decide) k) ?_
  refine own_by (B := s₁.setTop (mkF m 39 #[.val (.int (3 : Int32)), .val (.int i1), .val (.int i2), .val (.int i3)] [(.int (3 : Int32))])) (fun t k => XS.iconst X0.here hx rfl (hb hby d1_38) k) ?_
  obtain ⟨T1, h1, k1, X1, e1, E1, A1, st1⟩ := newP X0 hx hZ (hw _ (List.mem_of_getElem? (i := 4) rfl)) e0 (g := (mkF m 39 #[.val (.int (3 : Int32)), .val (.int i1), .val (.int i2), .val (.int i3)] [(.int (3 : Int32))])) rfl (hb hby d1_39) rfl (by decide) (cap := 3) (by decide) (by decide) (by decide) (by decide)
  obtain ⟨b1, gq1⟩ : ∃ z, z = h0.size := ⟨_, rfl⟩
  rw [← gq1] at A1 st1
  have g_b1 : n0 ≤ b1 := Nat.le_trans Zs (Nat.le_of_eq gq1.symm)
  have sz_b1 : h0.size ≤ b1 := Nat.le_trans Kp.1 (Nat.le_of_eq gq1.symm)
  have Zs := Nat.le_trans Zs E1.1
  have Kp := Kp.ext E1
  have V_b1 := own_Arf.new A1 (by decide)
  refine own_by (B := T1.setTop (mkF m 41 #[.val (.int (3 : Int32)), .val (.int i1), .val (.int i2), .val (.int i3)] [(.ref b1)])) st1 ?_
  refine own_by (B := T1.setTop (mkF m 42 #[.val (.int (3 : Int32)), .val (.int i1), .val (.int i2), .val (.int i3)] [(.ref b1), (.ref b1)])) (fun t k => XS.dup X1.here hx rfl (hb hby d1_41) rfl rfl k) ?_
  refine own_by (B := T1.setTop (mkF m 43 #[.val (.int (3 : Int32)), .val (.int i1), .val (.int i2), .val (.int i3)] [(.int (0 : Int32)), (.ref b1), (.ref b1)])) (fun t k => XS.iconst X1.here hx rfl (hb hby d1_42) k) ?_
  refine own_by (B := T1.setTop (mkF m 44 #[.val (.int (3 : Int32)), .val (.int i1), .val (.int i2), .val (.int i3)] [(.int i1), (.int (0 : Int32)), (.ref b1), (.ref b1)])) (fun t k => XS.iloadN X1.here hx rfl (hb hby d1_43) rfl k) ?_
  obtain ⟨cl2, Ar2, hin2, -⟩ := V_b1.at (j := (0 : Int32)) ⟨by decide, by decide⟩
  obtain ⟨T2, h2, X2, e2, W2, st2⟩ := stI X1 hx hZ e1 Ar2 (j := (0 : Int32)) hin2 (g := (mkF m 44 #[.val (.int (3 : Int32)), .val (.int i1), .val (.int i2), .val (.int i3)] [(.int i1), (.int (0 : Int32)), (.ref b1), (.ref b1)])) rfl rfl (hb hby d1_44)
  have V_b1 := V_b1.set W2
  have Zs : n0 ≤ h2.size := by rw [W2.size]; exact Zs
  have Kp := Kp.wr W2 (Or.inr sz_b1)
  have Nf := Fr.snoc X2 Nf g_b1
  refine own_by (B := T2.setTop (mkF m 45 #[.val (.int (3 : Int32)), .val (.int i1), .val (.int i2), .val (.int i3)] [(.ref b1)])) st2 ?_
  refine own_by (B := T2.setTop (mkF m 46 #[.val (.int (3 : Int32)), .val (.int i1), .val (.int i2), .val (.int i3)] [(.ref b1), (.ref b1)])) (fun t k => XS.dup X2.here hx rfl (hb hby d1_45) rfl rfl k) ?_
  refine own_by (B := T2.setTop (mkF m 47 #[.val (.int (3 : Int32)), .val (.int i1), .val (.int i2), .val (.int i3)] [(.int (1 : Int32)), (.ref b1), (.ref b1)])) (fun t k => XS.iconst X2.here hx rfl (hb hby d1_46) k) ?_
  refine own_by (B := T2.setTop (mkF m 48 #[.val (.int (3 : Int32)), .val (.int i1), .val (.int i2), .val (.int i3)] [(.int i2), (.int (1 : Int32)), (.ref b1), (.ref b1)])) (fun t k => XS.iloadN X2.here hx rfl (hb hby d1_47) rfl k) ?_
  obtain ⟨cl3, Ar3, hin3, -⟩ := V_b1.at (j := (1 : Int32)) ⟨by decide, by decide⟩
  obtain ⟨T3, h3, X3, e3, W3, st3⟩ := stI X2 hx hZ e2 Ar3 (j := (1 : Int32)) hin3 (g := (mkF m 48 #[.val (.int (3 : Int32)), .val (.int i1), .val (.int i2), .val (.int i3)] [(.int i2), (.int (1 : Int32)), (.ref b1), (.ref b1)])) rfl rfl (hb hby d1_48)
  have V_b1 := V_b1.set W3
  have Zs : n0 ≤ h3.size := by rw [W3.size]; exact Zs
  have Kp := Kp.wr W3 (Or.inr sz_b1)
  have Nf := Fr.snoc X3 Nf g_b1
  refine own_by (B := T3.setTop (mkF m 49 #[.val (.int (3 : Int32)), .val (.int i1), .val (.int i2), .val (.int i3)] [(.ref b1)])) st3 ?_
  refine own_by (B := T3.setTop (mkF m 50 #[.val (.int (3 : Int32)), .val (.int i1), .val (.int i2), .val (.int i3)] [(.ref b1), (.ref b1)])) (fun t k => XS.dup X3.here hx rfl (hb hby d1_49) rfl rfl k) ?_
  refine own_by (B := T3.setTop (mkF m 51 #[.val (.int (3 : Int32)), .val (.int i1), .val (.int i2), .val (.int i3)] [(.int (2 : Int32)), (.ref b1), (.ref b1)])) (fun t k => XS.iconst X3.here hx rfl (hb hby d1_50) k) ?_
  refine own_by (B := T3.setTop (mkF m 52 #[.val (.int (3 : Int32)), .val (.int i1), .val (.int i2), .val (.int i3)] [(.int i3), (.int (2 : Int32)), (.ref b1), (.ref b1)])) (fun t k => XS.iloadN X3.here hx rfl (hb hby d1_51) rfl k) ?_
  obtain ⟨cl4, Ar4, hin4, -⟩ := V_b1.at (j := (2 : Int32)) ⟨by decide, by decide⟩
  obtain ⟨T4, h4, X4, e4, W4, st4⟩ := stI X3 hx hZ e3 Ar4 (j := (2 : Int32)) hin4 (g := (mkF m 52 #[.val (.int (3 : Int32)), .val (.int i1), .val (.int i2), .val (.int i3)] [(.int i3), (.int (2 : Int32)), (.ref b1), (.ref b1)])) rfl rfl (hb hby d1_52)
  have V_b1 := V_b1.set W4
  have Zs : n0 ≤ h4.size := by rw [W4.size]; exact Zs
  have Kp := Kp.wr W4 (Or.inr sz_b1)
  have Nf := Fr.snoc X4 Nf g_b1
  refine own_by (B := T4.setTop (mkF m 53 #[.val (.int (3 : Int32)), .val (.int i1), .val (.int i2), .val (.int i3)] [(.ref b1)])) st4 ?_
  exact own_end X4 (v := some (.ref b1)) (fun h => by rw [Bd.returns] at h; cases h) (BodyLoose.notSynchronized Bd) (Q := (Q_rmM3 Z i1 i2 i3 h0 n0)) (fun fs hr => retOut X4 hx (t := (.array .int)) Bd.returns rfl (Or.inr (Or.inr (Or.inr (Or.inr ⟨rfl, rfl, rfl⟩)))) (hb hby d1_53) hr) (show (Q_rmM3 Z i1 i2 i3 h0 n0) _ T4.heap _ from (by rw [e4]; exact ⟨by rw [gq1], Nf, Kp, _, by rw [← gq1]; exact V_b1, rfl, rfl, rfl⟩)) (by decide) (by decide)
theorem d5_0 : decode prog_52_method_3_code 0 = .ok (.aload_n 0, 1) := by decide +kernel
theorem d5_1 : decode prog_52_method_3_code 1 = .ok (.getfield 7, 3) := by decide +kernel
theorem d5_4 : decode prog_52_method_3_code 4 = .ok (.arraylength, 1) := by decide +kernel
theorem d5_5 : decode prog_52_method_3_code 5 = .ok (.istore_n 1, 1) := by decide +kernel
theorem d5_6 : decode prog_52_method_3_code 6 = .ok (.aload_n 0, 1) := by decide +kernel
theorem d5_7 : decode prog_52_method_3_code 7 = .ok (.getfield 7, 3) := by decide +kernel
theorem d5_10 : decode prog_52_method_3_code 10 = .ok (.astore_n 2, 1) := by decide +kernel
theorem d5_11 : decode prog_52_method_3_code 11 = .ok (.aload_n 2, 1) := by decide +kernel
theorem d5_12 : decode prog_52_method_3_code 12 = .ok (.arraylength, 1) := by decide +kernel
theorem d5_13 : decode prog_52_method_3_code 13 = .ok (.istore_n 3, 1) := by decide +kernel
theorem d5_14 : decode prog_52_method_3_code 14 = .ok (.iconst 0, 1) := by decide +kernel
theorem d5_15 : decode prog_52_method_3_code 15 = .ok (.istore 4, 2) := by decide +kernel
theorem d5_17 : decode prog_52_method_3_code 17 = .ok (.iload 4, 2) := by decide +kernel
theorem d5_19 : decode prog_52_method_3_code 19 = .ok (.iload_n 3, 1) := by decide +kernel
theorem d5_20 : decode prog_52_method_3_code 20 = .ok (.if_icmp .ge 23, 3) := by decide +kernel
theorem d5_43 : decode prog_52_method_3_code 43 = .ok (.iload_n 1, 1) := by decide +kernel
theorem d5_44 : decode prog_52_method_3_code 44 = .ok (.iload_n 1, 1) := by decide +kernel
theorem d5_45 : decode prog_52_method_3_code 45 = .ok (.bipush 16, 2) := by decide +kernel
theorem d5_47 : decode prog_52_method_3_code 47 = .ok (.iushr, 1) := by decide +kernel
theorem d5_48 : decode prog_52_method_3_code 48 = .ok (.ixor, 1) := by decide +kernel
theorem d5_49 : decode prog_52_method_3_code 49 = .ok (.ireturn, 1) := by decide +kernel
theorem ef_rmH0 (m : MethodId) (x0 : Addr) : entryFrame m #[(.ref x0)] 6 = mkF m 0 #[.val (.ref x0), .unset, .unset, .unset, .unset, .unset] [] := by first | (simp [entryFrame, mkF, argsToLocals, Value.category]; done) | rfl
def Q_rmH0 (Z : State) (r0 : Addr) (r1 : Addr) (f : Nat → Value)  (h0 : Heap) (n0 : Nat) (v : Option Value) (h : Heap) (L : List Loc) : Prop := v = some (.int (own_fin (0 : Int32))) ∧ Fr n0 L ∧ h = h0
set_option maxRecDepth 65536 in
set_option maxHeartbeats 40000000 in
theorem rmH0 (l : Launch) (Z : State) (a0 : Array Value) (hw : ∀ d ∈ tables_1, d.before a0 Z = true) (ws : List Jvm.Cond) (r0 : Addr) (r1 : Addr) (f : Nat → Value)  (h0 : Heap) (n0 : Nat) (Z0 : n0 ≤ h0.size) (F_states_r0 : Fld Z h0 r0 "com/example/processes_as_trees/processesastrees/StateTuple" "states" "[I" (.ref r1)) (V_r1 : own_Arf Z h0 r1 .int (0 : Int32) f)  :
    MetFree l (⟨"com/example/processes_as_trees/processesastrees/StateTuple", "hashCode", "()I"⟩ : MethodName) (head1 (Jvm.Cond.code (⟨"com/example/processes_as_trees/processesastrees/StateTuple", "hashCode", "()I"⟩ : MethodName) prog_52_method_3_code 6 (some .int) :: ws) ({ frames := 0, cells := 0, slots := 0, locals := 0 } : Room)) (fun a U => a = #[(.ref r0)] ∧ Z.Warmed39 U.vm ∧ U.heap = h0) (fun _ _ _ _ _ => True) (fun _ U o U' => ∃ v L, o = .returned v ∧ Q_rmH0 Z r0 r1 f h0 n0 v U'.heap L ∧ FrameEnd U o U' L ({ frames := 0, cells := 0, slots := 0, locals := 0 } : Room).cells ({ frames := 0, cells := 0, slots := 0, locals := 0 } : Room).slots) := by
  refine MetFree.of_bodySF (plainFor_of_name own_pn1) hisR ?_
  intro p e s m args below meth c s₁ Bd hml0 hP hK
  obtain ⟨rfl, hZ, hh⟩ := hP
  have hx := Bd.exec
  have hby := Bd.bytes
  have hml : c.maxLocals = 6 := hml0
  have hown : s.vm.findClass "com/example/processes_as_trees/processesastrees/StateTuple" = some m.cls := findClass_of_methodNamed Bd.named
  have hnm := (name_of_methodNamed Bd.named Bd.method).1
  have X0 : Stand p l e ({ frames := 0, cells := 0, slots := 0, locals := 0 } : Room) s m #[(.ref r0)] below meth c s₁ [] 0 0 := Stand.of_body Bd
  have e0 : s₁.heap = h0 := by rw [← hh, Bd.state]; rfl
  show own_Go p e below (s₁.setTop (entryFrame m #[(.ref r0)] 6)) (fun t o => ∃ v L, o = .returned v ∧ Q_rmH0 Z r0 r1 f h0 n0 v t.heap L ∧ FrameEnd s o t L ({ frames := 0, cells := 0, slots := 0, locals := 0 } : Room).cells ({ frames := 0, cells := 0, slots := 0, locals := 0 } : Room).slots)
  refine own_by (B := s₁.setTop (mkF m 0 #[.val (.ref r0), .unset, .unset, .unset, .unset, .unset] [])) (fun t k => castTop (ef_rmH0 m r0) k) ?_
  have Nf := Fr.nil n0
  have Zs := Z0
  refine own_by (B := s₁.setTop (mkF m 1 #[.val (.ref r0), .unset, .unset, .unset, .unset, .unset] [(.ref r0)])) (fun t k => XS.aloadN X0.here hx rfl (hb hby d5_0) rfl rfl k) ?_
  obtain ⟨T1, X1, e1, st1⟩ := getF X0 hx hZ hown (host := "") (Or.inl (hw _ (List.mem_of_getElem? (i := 19) rfl))) Via.refl e0 F_states_r0 (g := (mkF m 1 #[.val (.ref r0), .unset, .unset, .unset, .unset, .unset] [(.ref r0)])) rfl rfl (hb hby d5_1)
  refine own_by (B := T1.setTop (mkF m 4 #[.val (.ref r0), .unset, .unset, .unset, .unset, .unset] [(.ref r1)])) st1 ?_
  obtain ⟨cl2, Ar2, Sz2, Ng2, -⟩ := id V_r1
  refine own_by (B := T1.setTop (mkF m 5 #[.val (.ref r0), .unset, .unset, .unset, .unset, .unset] [(.int (0 : Int32))])) (fun t k => X1.arraylength hx (by rw [e1]; exact Ar2.1) (State.isArrayOf_alike hZ.alike Ar2.2.1) (g := (mkF m 4 #[.val (.ref r0), .unset, .unset, .unset, .unset, .unset] [(.ref r1)])) rfl rfl (hb hby d5_4) _ (by rw [len_of Sz2 Ng2]; exact k)) ?_
  refine own_by (B := T1.setTop (mkF m 6 #[.val (.ref r0), .val (.int (0 : Int32)), .unset, .unset, .unset, .unset] [])) (fun t k => XS.istoreN X1.here hx rfl (hb hby d5_5) rfl (l' := #[.val (.ref r0), .val (.int (0 : Int32)), .unset, .unset, .unset, .unset]) rfl k) ?_
  refine own_by (B := T1.setTop (mkF m 7 #[.val (.ref r0), .val (.int (0 : Int32)), .unset, .unset, .unset, .unset] [(.ref r0)])) (fun t k => XS.aloadN X1.here hx rfl (hb hby d5_6) rfl rfl k) ?_
  obtain ⟨T3, X3, e3, st3⟩ := getF X1 hx hZ hown (host := "") (Or.inl (hw _ (List.mem_of_getElem? (i := 19) rfl))) Via.refl e1 F_states_r0 (g := (mkF m 7 #[.val (.ref r0), .val (.int (0 : Int32)), .unset, .unset, .unset, .unset] [(.ref r0)])) rfl rfl (hb hby d5_7)
  refine own_by (B := T3.setTop (mkF m 10 #[.val (.ref r0), .val (.int (0 : Int32)), .unset, .unset, .unset, .unset] [(.ref r1)])) st3 ?_
  refine own_by (B := T3.setTop (mkF m 11 #[.val (.ref r0), .val (.int (0 : Int32)), .val (.ref r1), .unset, .unset, .unset] [])) (fun t k => XS.astoreN X3.here hx rfl (hb hby d5_10) rfl rfl (l' := #[.val (.ref r0), .val (.int (0 : Int32)), .val (.ref r1), .unset, .unset, .unset]) rfl k) ?_
  refine own_by (B := T3.setTop (mkF m 12 #[.val (.ref r0), .val (.int (0 : Int32)), .val (.ref r1), .unset, .unset, .unset] [(.ref r1)])) (fun t k => XS.aloadN X3.here hx rfl (hb hby d5_11) rfl rfl k) ?_
  obtain ⟨cl4, Ar4, Sz4, Ng4, -⟩ := id V_r1
  refine own_by (B := T3.setTop (mkF m 13 #[.val (.ref r0), .val (.int (0 : Int32)), .val (.ref r1), .unset, .unset, .unset] [(.int (0 : Int32))])) (fun t k => X3.arraylength hx (by rw [e3]; exact Ar4.1) (State.isArrayOf_alike hZ.alike Ar4.2.1) (g := (mkF m 12 #[.val (.ref r0), .val (.int (0 : Int32)), .val (.ref r1), .unset, .unset, .unset] [(.ref r1)])) rfl rfl (hb hby d5_12) _ (by rw [len_of Sz4 Ng4]; exact k)) ?_
  refine own_by (B := T3.setTop (mkF m 14 #[.val (.ref r0), .val (.int (0 : Int32)), .val (.ref r1), .val (.int (0 : Int32)), .unset, .unset] [])) (fun t k => XS.istoreN X3.here hx rfl (hb hby d5_13) rfl (l' := #[.val (.ref r0), .val (.int (0 : Int32)), .val (.ref r1), .val (.int (0 : Int32)), .unset, .unset]) rfl k) ?_
  refine own_by (B := T3.setTop (mkF m 15 #[.val (.ref r0), .val (.int (0 : Int32)), .val (.ref r1), .val (.int (0 : Int32)), .unset, .unset] [(.int (0 : Int32))])) (fun t k => XS.iconst X3.here hx rfl (hb hby d5_14) k) ?_
  refine own_by (B := T3.setTop (mkF m 17 #[.val (.ref r0), .val (.int (0 : Int32)), .val (.ref r1), .val (.int (0 : Int32)), .val (.int (0 : Int32)), .unset] [])) (fun t k => XS.istore X3.here hx rfl (hb hby d5_15) rfl (l' := #[.val (.ref r0), .val (.int (0 : Int32)), .val (.ref r1), .val (.int (0 : Int32)), .val (.int (0 : Int32)), .unset]) rfl k) ?_
  refine own_by (B := T3.setTop (mkF m 19 #[.val (.ref r0), .val (.int (0 : Int32)), .val (.ref r1), .val (.int (0 : Int32)), .val (.int (0 : Int32)), .unset] [(.int (0 : Int32))])) (fun t k => XS.iload X3.here hx rfl (hb hby d5_17) rfl k) ?_
  refine own_by (B := T3.setTop (mkF m 20 #[.val (.ref r0), .val (.int (0 : Int32)), .val (.ref r1), .val (.int (0 : Int32)), .val (.int (0 : Int32)), .unset] [(.int (0 : Int32)), (.int (0 : Int32))])) (fun t k => XS.iloadN X3.here hx rfl (hb hby d5_19) rfl k) ?_
  refine own_by (B := T3.setTop (mkF m 43 #[.val (.ref r0), .val (.int (0 : Int32)), .val (.ref r1), .val (.int (0 : Int32)), .val (.int (0 : Int32)), .unset] [])) (fun t k => XS.icmpYes X3.here hx rfl (pc0 := 20) (pc' := 43) rfl (hb hby d5_20) rfl (flt (by decide)).2.1 (by decide) (by decide) k) ?_
  refine own_by (B := T3.setTop (mkF m 44 #[.val (.ref r0), .val (.int (0 : Int32)), .val (.ref r1), .val (.int (0 : Int32)), .val (.int (0 : Int32)), .unset] [(.int (0 : Int32))])) (fun t k => XS.iloadN X3.here hx rfl (hb hby d5_43) rfl k) ?_
  refine own_by (B := T3.setTop (mkF m 45 #[.val (.ref r0), .val (.int (0 : Int32)), .val (.ref r1), .val (.int (0 : Int32)), .val (.int (0 : Int32)), .unset] [(.int (0 : Int32)), (.int (0 : Int32))])) (fun t k => XS.iloadN X3.here hx rfl (hb hby d5_44) rfl k) ?_
  refine own_by (B := T3.setTop (mkF m 47 #[.val (.ref r0), .val (.int (0 : Int32)), .val (.ref r1), .val (.int (0 : Int32)), .val (.int (0 : Int32)), .unset] [(.int (16 : Int32)), (.int (0 : Int32)), (.int (0 : Int32))])) (fun t k => XS.bipush X3.here hx rfl (hb hby d5_45) k) ?_
  refine own_by (B := T3.setTop (mkF m 48 #[.val (.ref r0), .val (.int (0 : Int32)), .val (.ref r1), .val (.int (0 : Int32)), .val (.int (0 : Int32)), .unset] [(.int (((0 : Int32).toUInt32 >>> ((16 : Int32) &&& 31).toUInt32).toInt32)), (.int (0 : Int32))])) (fun t k => XS.iushr X3.here hx rfl (hb hby d5_47) rfl k) ?_
  refine own_by (B := T3.setTop (mkF m 49 #[.val (.ref r0), .val (.int (0 : Int32)), .val (.ref r1), .val (.int (0 : Int32)), .val (.int (0 : Int32)), .unset] [(.int ((0 : Int32) ^^^ (((0 : Int32).toUInt32 >>> ((16 : Int32) &&& 31).toUInt32).toInt32)))])) (fun t k => XS.ixor X3.here hx rfl (hb hby d5_48) rfl k) ?_
  exact own_end X3 (v := some (.int ((0 : Int32) ^^^ (((0 : Int32).toUInt32 >>> ((16 : Int32) &&& 31).toUInt32).toInt32)))) (fun h => by rw [Bd.returns] at h; cases h) (BodyLoose.notSynchronized Bd) (Q := (Q_rmH0 Z r0 r1 f h0 n0)) (fun fs hr => retI X3 hx Bd.returns (hb hby d5_49) hr) (show (Q_rmH0 Z r0 r1 f h0 n0) _ T3.heap _ from (by rw [e3]; exact ⟨rfl, Nf, rfl⟩)) (by decide) (by decide)
theorem d5_23 : decode prog_52_method_3_code 23 = .ok (.aload_n 2, 1) := by decide +kernel
theorem d5_24 : decode prog_52_method_3_code 24 = .ok (.iload 4, 2) := by decide +kernel
theorem d5_26 : decode prog_52_method_3_code 26 = .ok (.iaload, 1) := by decide +kernel
theorem d5_27 : decode prog_52_method_3_code 27 = .ok (.istore 5, 2) := by decide +kernel
theorem d5_29 : decode prog_52_method_3_code 29 = .ok (.iload_n 1, 1) := by decide +kernel
theorem d5_30 : decode prog_52_method_3_code 30 = .ok (.iload 5, 2) := by decide +kernel
theorem d5_32 : decode prog_52_method_3_code 32 = .ok (.ixor, 1) := by decide +kernel
theorem d5_33 : decode prog_52_method_3_code 33 = .ok (.ldc 19, 2) := by decide +kernel
theorem d5_35 : decode prog_52_method_3_code 35 = .ok (.imul, 1) := by decide +kernel
theorem d5_36 : decode prog_52_method_3_code 36 = .ok (.istore_n 1, 1) := by decide +kernel
theorem d5_37 : decode prog_52_method_3_code 37 = .ok (.iinc 4 1, 3) := by decide +kernel
theorem d5_40 : decode prog_52_method_3_code 40 = .ok (.goto (-23), 3) := by decide +kernel
theorem ef_rmH1 (m : MethodId) (x0 : Addr) : entryFrame m #[(.ref x0)] 6 = mkF m 0 #[.val (.ref x0), .unset, .unset, .unset, .unset, .unset] [] := by first | (simp [entryFrame, mkF, argsToLocals, Value.category]; done) | rfl
def Q_rmH1 (Z : State) (r0 : Addr) (r1 : Addr) (f : Nat → Value) (w0 : Int32) (h0 : Heap) (n0 : Nat) (v : Option Value) (h : Heap) (L : List Loc) : Prop := v = some (.int (own_fin (own_mix (1 : Int32) w0))) ∧ Fr n0 L ∧ h = h0
set_option maxRecDepth 65536 in
set_option maxHeartbeats 40000000 in
theorem rmH1 (l : Launch) (Z : State) (a0 : Array Value) (hw : ∀ d ∈ tables_1, d.before a0 Z = true) (ws : List Jvm.Cond) (r0 : Addr) (r1 : Addr) (f : Nat → Value) (w0 : Int32) (h0 : Heap) (n0 : Nat) (Z0 : n0 ≤ h0.size) (F_states_r0 : Fld Z h0 r0 "com/example/processes_as_trees/processesastrees/StateTuple" "states" "[I" (.ref r1)) (V_r1 : own_Arf Z h0 r1 .int (1 : Int32) f) (hf0 : f 0 = .int w0) :
    MetFree l (⟨"com/example/processes_as_trees/processesastrees/StateTuple", "hashCode", "()I"⟩ : MethodName) (head1 (Jvm.Cond.code (⟨"com/example/processes_as_trees/processesastrees/StateTuple", "hashCode", "()I"⟩ : MethodName) prog_52_method_3_code 6 (some .int) :: ws) ({ frames := 0, cells := 0, slots := 0, locals := 0 } : Room)) (fun a U => a = #[(.ref r0)] ∧ Z.Warmed39 U.vm ∧ U.heap = h0) (fun _ _ _ _ _ => True) (fun _ U o U' => ∃ v L, o = .returned v ∧ Q_rmH1 Z r0 r1 f w0 h0 n0 v U'.heap L ∧ FrameEnd U o U' L ({ frames := 0, cells := 0, slots := 0, locals := 0 } : Room).cells ({ frames := 0, cells := 0, slots := 0, locals := 0 } : Room).slots) := by
  refine MetFree.of_bodySF (plainFor_of_name own_pn1) hisR ?_
  intro p e s m args below meth c s₁ Bd hml0 hP hK
  obtain ⟨rfl, hZ, hh⟩ := hP
  have hx := Bd.exec
  have hby := Bd.bytes
  have hml : c.maxLocals = 6 := hml0
  have hown : s.vm.findClass "com/example/processes_as_trees/processesastrees/StateTuple" = some m.cls := findClass_of_methodNamed Bd.named
  have hnm := (name_of_methodNamed Bd.named Bd.method).1
  have X0 : Stand p l e ({ frames := 0, cells := 0, slots := 0, locals := 0 } : Room) s m #[(.ref r0)] below meth c s₁ [] 0 0 := Stand.of_body Bd
  have e0 : s₁.heap = h0 := by rw [← hh, Bd.state]; rfl
  show own_Go p e below (s₁.setTop (entryFrame m #[(.ref r0)] 6)) (fun t o => ∃ v L, o = .returned v ∧ Q_rmH1 Z r0 r1 f w0 h0 n0 v t.heap L ∧ FrameEnd s o t L ({ frames := 0, cells := 0, slots := 0, locals := 0 } : Room).cells ({ frames := 0, cells := 0, slots := 0, locals := 0 } : Room).slots)
  refine own_by (B := s₁.setTop (mkF m 0 #[.val (.ref r0), .unset, .unset, .unset, .unset, .unset] [])) (fun t k => castTop (ef_rmH1 m r0) k) ?_
  have Nf := Fr.nil n0
  have Zs := Z0
  refine own_by (B := s₁.setTop (mkF m 1 #[.val (.ref r0), .unset, .unset, .unset, .unset, .unset] [(.ref r0)])) (fun t k => XS.aloadN X0.here hx rfl (hb hby d5_0) rfl rfl k) ?_
  obtain ⟨T1, X1, e1, st1⟩ := getF X0 hx hZ hown (host := "") (Or.inl (hw _ (List.mem_of_getElem? (i := 19) rfl))) Via.refl e0 F_states_r0 (g := (mkF m 1 #[.val (.ref r0), .unset, .unset, .unset, .unset, .unset] [(.ref r0)])) rfl rfl (hb hby d5_1)
  refine own_by (B := T1.setTop (mkF m 4 #[.val (.ref r0), .unset, .unset, .unset, .unset, .unset] [(.ref r1)])) st1 ?_
  obtain ⟨cl2, Ar2, Sz2, Ng2, -⟩ := id V_r1
  refine own_by (B := T1.setTop (mkF m 5 #[.val (.ref r0), .unset, .unset, .unset, .unset, .unset] [(.int (1 : Int32))])) (fun t k => X1.arraylength hx (by rw [e1]; exact Ar2.1) (State.isArrayOf_alike hZ.alike Ar2.2.1) (g := (mkF m 4 #[.val (.ref r0), .unset, .unset, .unset, .unset, .unset] [(.ref r1)])) rfl rfl (hb hby d5_4) _ (by rw [len_of Sz2 Ng2]; exact k)) ?_
  refine own_by (B := T1.setTop (mkF m 6 #[.val (.ref r0), .val (.int (1 : Int32)), .unset, .unset, .unset, .unset] [])) (fun t k => XS.istoreN X1.here hx rfl (hb hby d5_5) rfl (l' := #[.val (.ref r0), .val (.int (1 : Int32)), .unset, .unset, .unset, .unset]) rfl k) ?_
  refine own_by (B := T1.setTop (mkF m 7 #[.val (.ref r0), .val (.int (1 : Int32)), .unset, .unset, .unset, .unset] [(.ref r0)])) (fun t k => XS.aloadN X1.here hx rfl (hb hby d5_6) rfl rfl k) ?_
  obtain ⟨T3, X3, e3, st3⟩ := getF X1 hx hZ hown (host := "") (Or.inl (hw _ (List.mem_of_getElem? (i := 19) rfl))) Via.refl e1 F_states_r0 (g := (mkF m 7 #[.val (.ref r0), .val (.int (1 : Int32)), .unset, .unset, .unset, .unset] [(.ref r0)])) rfl rfl (hb hby d5_7)
  refine own_by (B := T3.setTop (mkF m 10 #[.val (.ref r0), .val (.int (1 : Int32)), .unset, .unset, .unset, .unset] [(.ref r1)])) st3 ?_
  refine own_by (B := T3.setTop (mkF m 11 #[.val (.ref r0), .val (.int (1 : Int32)), .val (.ref r1), .unset, .unset, .unset] [])) (fun t k => XS.astoreN X3.here hx rfl (hb hby d5_10) rfl rfl (l' := #[.val (.ref r0), .val (.int (1 : Int32)), .val (.ref r1), .unset, .unset, .unset]) rfl k) ?_
  refine own_by (B := T3.setTop (mkF m 12 #[.val (.ref r0), .val (.int (1 : Int32)), .val (.ref r1), .unset, .unset, .unset] [(.ref r1)])) (fun t k => XS.aloadN X3.here hx rfl (hb hby d5_11) rfl rfl k) ?_
  obtain ⟨cl4, Ar4, Sz4, Ng4, -⟩ := id V_r1
  refine own_by (B := T3.setTop (mkF m 13 #[.val (.ref r0), .val (.int (1 : Int32)), .val (.ref r1), .unset, .unset, .unset] [(.int (1 : Int32))])) (fun t k => X3.arraylength hx (by rw [e3]; exact Ar4.1) (State.isArrayOf_alike hZ.alike Ar4.2.1) (g := (mkF m 12 #[.val (.ref r0), .val (.int (1 : Int32)), .val (.ref r1), .unset, .unset, .unset] [(.ref r1)])) rfl rfl (hb hby d5_12) _ (by rw [len_of Sz4 Ng4]; exact k)) ?_
  refine own_by (B := T3.setTop (mkF m 14 #[.val (.ref r0), .val (.int (1 : Int32)), .val (.ref r1), .val (.int (1 : Int32)), .unset, .unset] [])) (fun t k => XS.istoreN X3.here hx rfl (hb hby d5_13) rfl (l' := #[.val (.ref r0), .val (.int (1 : Int32)), .val (.ref r1), .val (.int (1 : Int32)), .unset, .unset]) rfl k) ?_
  refine own_by (B := T3.setTop (mkF m 15 #[.val (.ref r0), .val (.int (1 : Int32)), .val (.ref r1), .val (.int (1 : Int32)), .unset, .unset] [(.int (0 : Int32))])) (fun t k => XS.iconst X3.here hx rfl (hb hby d5_14) k) ?_
  refine own_by (B := T3.setTop (mkF m 17 #[.val (.ref r0), .val (.int (1 : Int32)), .val (.ref r1), .val (.int (1 : Int32)), .val (.int (0 : Int32)), .unset] [])) (fun t k => XS.istore X3.here hx rfl (hb hby d5_15) rfl (l' := #[.val (.ref r0), .val (.int (1 : Int32)), .val (.ref r1), .val (.int (1 : Int32)), .val (.int (0 : Int32)), .unset]) rfl k) ?_
  refine own_by (B := T3.setTop (mkF m 19 #[.val (.ref r0), .val (.int (1 : Int32)), .val (.ref r1), .val (.int (1 : Int32)), .val (.int (0 : Int32)), .unset] [(.int (0 : Int32))])) (fun t k => XS.iload X3.here hx rfl (hb hby d5_17) rfl k) ?_
  refine own_by (B := T3.setTop (mkF m 20 #[.val (.ref r0), .val (.int (1 : Int32)), .val (.ref r1), .val (.int (1 : Int32)), .val (.int (0 : Int32)), .unset] [(.int (1 : Int32)), (.int (0 : Int32))])) (fun t k => XS.iloadN X3.here hx rfl (hb hby d5_19) rfl k) ?_
  refine own_by (B := T3.setTop (mkF m 23 #[.val (.ref r0), .val (.int (1 : Int32)), .val (.ref r1), .val (.int (1 : Int32)), .val (.int (0 : Int32)), .unset] [])) (fun t k => XS.icmpNo X3.here hx rfl (hb hby d5_20) rfl (tlt (by decide)).2.1 k) ?_
  refine own_by (B := T3.setTop (mkF m 24 #[.val (.ref r0), .val (.int (1 : Int32)), .val (.ref r1), .val (.int (1 : Int32)), .val (.int (0 : Int32)), .unset] [(.ref r1)])) (fun t k => XS.aloadN X3.here hx rfl (hb hby d5_23) rfl rfl k) ?_
  refine own_by (B := T3.setTop (mkF m 26 #[.val (.ref r0), .val (.int (1 : Int32)), .val (.ref r1), .val (.int (1 : Int32)), .val (.int (0 : Int32)), .unset] [(.int (0 : Int32)), (.ref r1)])) (fun t k => XS.iload X3.here hx rfl (hb hby d5_24) rfl k) ?_
  obtain ⟨cl5, Ar5, hin5, hat5⟩ := V_r1.at (j := (0 : Int32)) ⟨by decide, by decide⟩
  have hat5 := hat5.trans (congrArg some (show _ = (.int w0) from hf0))
  refine own_by (B := T3.setTop (mkF m 27 #[.val (.ref r0), .val (.int (1 : Int32)), .val (.ref r1), .val (.int (1 : Int32)), .val (.int (0 : Int32)), .unset] [(.int w0)])) (fun t k => X3.iaload hx (j := (0 : Int32)) (v := (.int w0)) (by rw [e3]; exact Ar5.1) (State.isArrayOf_alike hZ.alike Ar5.2.1) Ar5.2.2 hin5 hat5 (g := (mkF m 26 #[.val (.ref r0), .val (.int (1 : Int32)), .val (.ref r1), .val (.int (1 : Int32)), .val (.int (0 : Int32)), .unset] [(.int (0 : Int32)), (.ref r1)])) rfl rfl (hb hby d5_26) _ k) ?_
  refine own_by (B := T3.setTop (mkF m 29 #[.val (.ref r0), .val (.int (1 : Int32)), .val (.ref r1), .val (.int (1 : Int32)), .val (.int (0 : Int32)), .val (.int w0)] [])) (fun t k => XS.istore X3.here hx rfl (hb hby d5_27) rfl (l' := #[.val (.ref r0), .val (.int (1 : Int32)), .val (.ref r1), .val (.int (1 : Int32)), .val (.int (0 : Int32)), .val (.int w0)]) rfl k) ?_
  refine own_by (B := T3.setTop (mkF m 30 #[.val (.ref r0), .val (.int (1 : Int32)), .val (.ref r1), .val (.int (1 : Int32)), .val (.int (0 : Int32)), .val (.int w0)] [(.int (1 : Int32))])) (fun t k => XS.iloadN X3.here hx rfl (hb hby d5_29) rfl k) ?_
  refine own_by (B := T3.setTop (mkF m 32 #[.val (.ref r0), .val (.int (1 : Int32)), .val (.ref r1), .val (.int (1 : Int32)), .val (.int (0 : Int32)), .val (.int w0)] [(.int w0), (.int (1 : Int32))])) (fun t k => XS.iload X3.here hx rfl (hb hby d5_30) rfl k) ?_
  refine own_by (B := T3.setTop (mkF m 33 #[.val (.ref r0), .val (.int (1 : Int32)), .val (.ref r1), .val (.int (1 : Int32)), .val (.int (0 : Int32)), .val (.int w0)] [(.int ((1 : Int32) ^^^ w0))])) (fun t k => XS.ixor X3.here hx rfl (hb hby d5_32) rfl k) ?_
  refine own_by (B := T3.setTop (mkF m 35 #[.val (.ref r0), .val (.int (1 : Int32)), .val (.ref r1), .val (.int (1 : Int32)), .val (.int (0 : Int32)), .val (.int w0)] [(.int (-1640531527 : Int32)), (.int ((1 : Int32) ^^^ w0))])) (fun t k => X3.ldcInt hx hown (mvT hZ (hw _ (List.mem_of_getElem? (i := 26) rfl))) (g := (mkF m 33 #[.val (.ref r0), .val (.int (1 : Int32)), .val (.ref r1), .val (.int (1 : Int32)), .val (.int (0 : Int32)), .val (.int w0)] [(.int ((1 : Int32) ^^^ w0))])) rfl (hb hby d5_33) _ k) ?_
  refine own_by (B := T3.setTop (mkF m 36 #[.val (.ref r0), .val (.int (1 : Int32)), .val (.ref r1), .val (.int (1 : Int32)), .val (.int (0 : Int32)), .val (.int w0)] [(.int (((1 : Int32) ^^^ w0) * (-1640531527 : Int32)))])) (fun t k => XS.imul X3.here hx rfl (hb hby d5_35) rfl k) ?_
  refine own_by (B := T3.setTop (mkF m 37 #[.val (.ref r0), .val (.int (((1 : Int32) ^^^ w0) * (-1640531527 : Int32))), .val (.ref r1), .val (.int (1 : Int32)), .val (.int (0 : Int32)), .val (.int w0)] [])) (fun t k => XS.istoreN X3.here hx rfl (hb hby d5_36) rfl (l' := #[.val (.ref r0), .val (.int (((1 : Int32) ^^^ w0) * (-1640531527 : Int32))), .val (.ref r1), .val (.int (1 : Int32)), .val (.int (0 : Int32)), .val (.int w0)]) rfl k) ?_
  refine own_by (B := T3.setTop (mkF m 40 #[.val (.ref r0), .val (.int (((1 : Int32) ^^^ w0) * (-1640531527 : Int32))), .val (.ref r1), .val (.int (1 : Int32)), .val (.int (1 : Int32)), .val (.int w0)] [])) (fun t k => XS.iinc X3.here hx rfl (hb hby d5_37) rfl (l' := #[.val (.ref r0), .val (.int (((1 : Int32) ^^^ w0) * (-1640531527 : Int32))), .val (.ref r1), .val (.int (1 : Int32)), .val (.int (1 : Int32)), .val (.int w0)]) rfl k) ?_
  refine own_by (B := T3.setTop (mkF m 17 #[.val (.ref r0), .val (.int (((1 : Int32) ^^^ w0) * (-1640531527 : Int32))), .val (.ref r1), .val (.int (1 : Int32)), .val (.int (1 : Int32)), .val (.int w0)] [])) (fun t k => XS.goto X3.here hx rfl (pc0 := 40) (pc' := 17) rfl (hb hby d5_40) (by decide) (by decide) k) ?_
  refine own_by (B := T3.setTop (mkF m 19 #[.val (.ref r0), .val (.int (((1 : Int32) ^^^ w0) * (-1640531527 : Int32))), .val (.ref r1), .val (.int (1 : Int32)), .val (.int (1 : Int32)), .val (.int w0)] [(.int (1 : Int32))])) (fun t k => XS.iload X3.here hx rfl (hb hby d5_17) rfl k) ?_
  refine own_by (B := T3.setTop (mkF m 20 #[.val (.ref r0), .val (.int (((1 : Int32) ^^^ w0) * (-1640531527 : Int32))), .val (.ref r1), .val (.int (1 : Int32)), .val (.int (1 : Int32)), .val (.int w0)] [(.int (1 : Int32)), (.int (1 : Int32))])) (fun t k => XS.iloadN X3.here hx rfl (hb hby d5_19) rfl k) ?_
  refine own_by (B := T3.setTop (mkF m 43 #[.val (.ref r0), .val (.int (((1 : Int32) ^^^ w0) * (-1640531527 : Int32))), .val (.ref r1), .val (.int (1 : Int32)), .val (.int (1 : Int32)), .val (.int w0)] [])) (fun t k => XS.icmpYes X3.here hx rfl (pc0 := 20) (pc' := 43) rfl (hb hby d5_20) rfl (flt (by decide)).2.1 (by decide) (by decide) k) ?_
  refine own_by (B := T3.setTop (mkF m 44 #[.val (.ref r0), .val (.int (((1 : Int32) ^^^ w0) * (-1640531527 : Int32))), .val (.ref r1), .val (.int (1 : Int32)), .val (.int (1 : Int32)), .val (.int w0)] [(.int (((1 : Int32) ^^^ w0) * (-1640531527 : Int32)))])) (fun t k => XS.iloadN X3.here hx rfl (hb hby d5_43) rfl k) ?_
  refine own_by (B := T3.setTop (mkF m 45 #[.val (.ref r0), .val (.int (((1 : Int32) ^^^ w0) * (-1640531527 : Int32))), .val (.ref r1), .val (.int (1 : Int32)), .val (.int (1 : Int32)), .val (.int w0)] [(.int (((1 : Int32) ^^^ w0) * (-1640531527 : Int32))), (.int (((1 : Int32) ^^^ w0) * (-1640531527 : Int32)))])) (fun t k => XS.iloadN X3.here hx rfl (hb hby d5_44) rfl k) ?_
  refine own_by (B := T3.setTop (mkF m 47 #[.val (.ref r0), .val (.int (((1 : Int32) ^^^ w0) * (-1640531527 : Int32))), .val (.ref r1), .val (.int (1 : Int32)), .val (.int (1 : Int32)), .val (.int w0)] [(.int (16 : Int32)), (.int (((1 : Int32) ^^^ w0) * (-1640531527 : Int32))), (.int (((1 : Int32) ^^^ w0) * (-1640531527 : Int32)))])) (fun t k => XS.bipush X3.here hx rfl (hb hby d5_45) k) ?_
  refine own_by (B := T3.setTop (mkF m 48 #[.val (.ref r0), .val (.int (((1 : Int32) ^^^ w0) * (-1640531527 : Int32))), .val (.ref r1), .val (.int (1 : Int32)), .val (.int (1 : Int32)), .val (.int w0)] [(.int (((((1 : Int32) ^^^ w0) * (-1640531527 : Int32)).toUInt32 >>> ((16 : Int32) &&& 31).toUInt32).toInt32)), (.int (((1 : Int32) ^^^ w0) * (-1640531527 : Int32)))])) (fun t k => XS.iushr X3.here hx rfl (hb hby d5_47) rfl k) ?_
  refine own_by (B := T3.setTop (mkF m 49 #[.val (.ref r0), .val (.int (((1 : Int32) ^^^ w0) * (-1640531527 : Int32))), .val (.ref r1), .val (.int (1 : Int32)), .val (.int (1 : Int32)), .val (.int w0)] [(.int ((((1 : Int32) ^^^ w0) * (-1640531527 : Int32)) ^^^ (((((1 : Int32) ^^^ w0) * (-1640531527 : Int32)).toUInt32 >>> ((16 : Int32) &&& 31).toUInt32).toInt32)))])) (fun t k => XS.ixor X3.here hx rfl (hb hby d5_48) rfl k) ?_
  exact own_end X3 (v := some (.int ((((1 : Int32) ^^^ w0) * (-1640531527 : Int32)) ^^^ (((((1 : Int32) ^^^ w0) * (-1640531527 : Int32)).toUInt32 >>> ((16 : Int32) &&& 31).toUInt32).toInt32)))) (fun h => by rw [Bd.returns] at h; cases h) (BodyLoose.notSynchronized Bd) (Q := (Q_rmH1 Z r0 r1 f w0 h0 n0)) (fun fs hr => retI X3 hx Bd.returns (hb hby d5_49) hr) (show (Q_rmH1 Z r0 r1 f w0 h0 n0) _ T3.heap _ from (by rw [e3]; exact ⟨rfl, Nf, rfl⟩)) (by decide) (by decide)
theorem ef_rmH2 (m : MethodId) (x0 : Addr) : entryFrame m #[(.ref x0)] 6 = mkF m 0 #[.val (.ref x0), .unset, .unset, .unset, .unset, .unset] [] := by first | (simp [entryFrame, mkF, argsToLocals, Value.category]; done) | rfl
def Q_rmH2 (Z : State) (r0 : Addr) (r1 : Addr) (f : Nat → Value) (w0 : Int32) (w1 : Int32) (h0 : Heap) (n0 : Nat) (v : Option Value) (h : Heap) (L : List Loc) : Prop := v = some (.int (own_fin (own_mix (own_mix (2 : Int32) w0) w1))) ∧ Fr n0 L ∧ h = h0
set_option maxRecDepth 65536 in
set_option maxHeartbeats 40000000 in
theorem rmH2 (l : Launch) (Z : State) (a0 : Array Value) (hw : ∀ d ∈ tables_1, d.before a0 Z = true) (ws : List Jvm.Cond) (r0 : Addr) (r1 : Addr) (f : Nat → Value) (w0 : Int32) (w1 : Int32) (h0 : Heap) (n0 : Nat) (Z0 : n0 ≤ h0.size) (F_states_r0 : Fld Z h0 r0 "com/example/processes_as_trees/processesastrees/StateTuple" "states" "[I" (.ref r1)) (V_r1 : own_Arf Z h0 r1 .int (2 : Int32) f) (hf0 : f 0 = .int w0) (hf1 : f 1 = .int w1) :
    MetFree l (⟨"com/example/processes_as_trees/processesastrees/StateTuple", "hashCode", "()I"⟩ : MethodName) (head1 (Jvm.Cond.code (⟨"com/example/processes_as_trees/processesastrees/StateTuple", "hashCode", "()I"⟩ : MethodName) prog_52_method_3_code 6 (some .int) :: ws) ({ frames := 0, cells := 0, slots := 0, locals := 0 } : Room)) (fun a U => a = #[(.ref r0)] ∧ Z.Warmed39 U.vm ∧ U.heap = h0) (fun _ _ _ _ _ => True) (fun _ U o U' => ∃ v L, o = .returned v ∧ Q_rmH2 Z r0 r1 f w0 w1 h0 n0 v U'.heap L ∧ FrameEnd U o U' L ({ frames := 0, cells := 0, slots := 0, locals := 0 } : Room).cells ({ frames := 0, cells := 0, slots := 0, locals := 0 } : Room).slots) := by
  refine MetFree.of_bodySF (plainFor_of_name own_pn1) hisR ?_
  intro p e s m args below meth c s₁ Bd hml0 hP hK
  obtain ⟨rfl, hZ, hh⟩ := hP
  have hx := Bd.exec
  have hby := Bd.bytes
  have hml : c.maxLocals = 6 := hml0
  have hown : s.vm.findClass "com/example/processes_as_trees/processesastrees/StateTuple" = some m.cls := findClass_of_methodNamed Bd.named
  have hnm := (name_of_methodNamed Bd.named Bd.method).1
  have X0 : Stand p l e ({ frames := 0, cells := 0, slots := 0, locals := 0 } : Room) s m #[(.ref r0)] below meth c s₁ [] 0 0 := Stand.of_body Bd
  have e0 : s₁.heap = h0 := by rw [← hh, Bd.state]; rfl
  show own_Go p e below (s₁.setTop (entryFrame m #[(.ref r0)] 6)) (fun t o => ∃ v L, o = .returned v ∧ Q_rmH2 Z r0 r1 f w0 w1 h0 n0 v t.heap L ∧ FrameEnd s o t L ({ frames := 0, cells := 0, slots := 0, locals := 0 } : Room).cells ({ frames := 0, cells := 0, slots := 0, locals := 0 } : Room).slots)
  refine own_by (B := s₁.setTop (mkF m 0 #[.val (.ref r0), .unset, .unset, .unset, .unset, .unset] [])) (fun t k => castTop (ef_rmH2 m r0) k) ?_
  have Nf := Fr.nil n0
  have Zs := Z0
  refine own_by (B := s₁.setTop (mkF m 1 #[.val (.ref r0), .unset, .unset, .unset, .unset, .unset] [(.ref r0)])) (fun t k => XS.aloadN X0.here hx rfl (hb hby d5_0) rfl rfl k) ?_
  obtain ⟨T1, X1, e1, st1⟩ := getF X0 hx hZ hown (host := "") (Or.inl (hw _ (List.mem_of_getElem? (i := 19) rfl))) Via.refl e0 F_states_r0 (g := (mkF m 1 #[.val (.ref r0), .unset, .unset, .unset, .unset, .unset] [(.ref r0)])) rfl rfl (hb hby d5_1)
  refine own_by (B := T1.setTop (mkF m 4 #[.val (.ref r0), .unset, .unset, .unset, .unset, .unset] [(.ref r1)])) st1 ?_
  obtain ⟨cl2, Ar2, Sz2, Ng2, -⟩ := id V_r1
  refine own_by (B := T1.setTop (mkF m 5 #[.val (.ref r0), .unset, .unset, .unset, .unset, .unset] [(.int (2 : Int32))])) (fun t k => X1.arraylength hx (by rw [e1]; exact Ar2.1) (State.isArrayOf_alike hZ.alike Ar2.2.1) (g := (mkF m 4 #[.val (.ref r0), .unset, .unset, .unset, .unset, .unset] [(.ref r1)])) rfl rfl (hb hby d5_4) _ (by rw [len_of Sz2 Ng2]; exact k)) ?_
  refine own_by (B := T1.setTop (mkF m 6 #[.val (.ref r0), .val (.int (2 : Int32)), .unset, .unset, .unset, .unset] [])) (fun t k => XS.istoreN X1.here hx rfl (hb hby d5_5) rfl (l' := #[.val (.ref r0), .val (.int (2 : Int32)), .unset, .unset, .unset, .unset]) rfl k) ?_
  refine own_by (B := T1.setTop (mkF m 7 #[.val (.ref r0), .val (.int (2 : Int32)), .unset, .unset, .unset, .unset] [(.ref r0)])) (fun t k => XS.aloadN X1.here hx rfl (hb hby d5_6) rfl rfl k) ?_
  obtain ⟨T3, X3, e3, st3⟩ := getF X1 hx hZ hown (host := "") (Or.inl (hw _ (List.mem_of_getElem? (i := 19) rfl))) Via.refl e1 F_states_r0 (g := (mkF m 7 #[.val (.ref r0), .val (.int (2 : Int32)), .unset, .unset, .unset, .unset] [(.ref r0)])) rfl rfl (hb hby d5_7)
  refine own_by (B := T3.setTop (mkF m 10 #[.val (.ref r0), .val (.int (2 : Int32)), .unset, .unset, .unset, .unset] [(.ref r1)])) st3 ?_
  refine own_by (B := T3.setTop (mkF m 11 #[.val (.ref r0), .val (.int (2 : Int32)), .val (.ref r1), .unset, .unset, .unset] [])) (fun t k => XS.astoreN X3.here hx rfl (hb hby d5_10) rfl rfl (l' := #[.val (.ref r0), .val (.int (2 : Int32)), .val (.ref r1), .unset, .unset, .unset]) rfl k) ?_
  refine own_by (B := T3.setTop (mkF m 12 #[.val (.ref r0), .val (.int (2 : Int32)), .val (.ref r1), .unset, .unset, .unset] [(.ref r1)])) (fun t k => XS.aloadN X3.here hx rfl (hb hby d5_11) rfl rfl k) ?_
  obtain ⟨cl4, Ar4, Sz4, Ng4, -⟩ := id V_r1
  refine own_by (B := T3.setTop (mkF m 13 #[.val (.ref r0), .val (.int (2 : Int32)), .val (.ref r1), .unset, .unset, .unset] [(.int (2 : Int32))])) (fun t k => X3.arraylength hx (by rw [e3]; exact Ar4.1) (State.isArrayOf_alike hZ.alike Ar4.2.1) (g := (mkF m 12 #[.val (.ref r0), .val (.int (2 : Int32)), .val (.ref r1), .unset, .unset, .unset] [(.ref r1)])) rfl rfl (hb hby d5_12) _ (by rw [len_of Sz4 Ng4]; exact k)) ?_
  refine own_by (B := T3.setTop (mkF m 14 #[.val (.ref r0), .val (.int (2 : Int32)), .val (.ref r1), .val (.int (2 : Int32)), .unset, .unset] [])) (fun t k => XS.istoreN X3.here hx rfl (hb hby d5_13) rfl (l' := #[.val (.ref r0), .val (.int (2 : Int32)), .val (.ref r1), .val (.int (2 : Int32)), .unset, .unset]) rfl k) ?_
  refine own_by (B := T3.setTop (mkF m 15 #[.val (.ref r0), .val (.int (2 : Int32)), .val (.ref r1), .val (.int (2 : Int32)), .unset, .unset] [(.int (0 : Int32))])) (fun t k => XS.iconst X3.here hx rfl (hb hby d5_14) k) ?_
  refine own_by (B := T3.setTop (mkF m 17 #[.val (.ref r0), .val (.int (2 : Int32)), .val (.ref r1), .val (.int (2 : Int32)), .val (.int (0 : Int32)), .unset] [])) (fun t k => XS.istore X3.here hx rfl (hb hby d5_15) rfl (l' := #[.val (.ref r0), .val (.int (2 : Int32)), .val (.ref r1), .val (.int (2 : Int32)), .val (.int (0 : Int32)), .unset]) rfl k) ?_
  refine own_by (B := T3.setTop (mkF m 19 #[.val (.ref r0), .val (.int (2 : Int32)), .val (.ref r1), .val (.int (2 : Int32)), .val (.int (0 : Int32)), .unset] [(.int (0 : Int32))])) (fun t k => XS.iload X3.here hx rfl (hb hby d5_17) rfl k) ?_
  refine own_by (B := T3.setTop (mkF m 20 #[.val (.ref r0), .val (.int (2 : Int32)), .val (.ref r1), .val (.int (2 : Int32)), .val (.int (0 : Int32)), .unset] [(.int (2 : Int32)), (.int (0 : Int32))])) (fun t k => XS.iloadN X3.here hx rfl (hb hby d5_19) rfl k) ?_
  refine own_by (B := T3.setTop (mkF m 23 #[.val (.ref r0), .val (.int (2 : Int32)), .val (.ref r1), .val (.int (2 : Int32)), .val (.int (0 : Int32)), .unset] [])) (fun t k => XS.icmpNo X3.here hx rfl (hb hby d5_20) rfl (tlt (by decide)).2.1 k) ?_
  refine own_by (B := T3.setTop (mkF m 24 #[.val (.ref r0), .val (.int (2 : Int32)), .val (.ref r1), .val (.int (2 : Int32)), .val (.int (0 : Int32)), .unset] [(.ref r1)])) (fun t k => XS.aloadN X3.here hx rfl (hb hby d5_23) rfl rfl k) ?_
  refine own_by (B := T3.setTop (mkF m 26 #[.val (.ref r0), .val (.int (2 : Int32)), .val (.ref r1), .val (.int (2 : Int32)), .val (.int (0 : Int32)), .unset] [(.int (0 : Int32)), (.ref r1)])) (fun t k => XS.iload X3.here hx rfl (hb hby d5_24) rfl k) ?_
  obtain ⟨cl5, Ar5, hin5, hat5⟩ := V_r1.at (j := (0 : Int32)) ⟨by decide, by decide⟩
  have hat5 := hat5.trans (congrArg some (show _ = (.int w0) from hf0))
  refine own_by (B := T3.setTop (mkF m 27 #[.val (.ref r0), .val (.int (2 : Int32)), .val (.ref r1), .val (.int (2 : Int32)), .val (.int (0 : Int32)), .unset] [(.int w0)])) (fun t k => X3.iaload hx (j := (0 : Int32)) (v := (.int w0)) (by rw [e3]; exact Ar5.1) (State.isArrayOf_alike hZ.alike Ar5.2.1) Ar5.2.2 hin5 hat5 (g := (mkF m 26 #[.val (.ref r0), .val (.int (2 : Int32)), .val (.ref r1), .val (.int (2 : Int32)), .val (.int (0 : Int32)), .unset] [(.int (0 : Int32)), (.ref r1)])) rfl rfl (hb hby d5_26) _ k) ?_
  refine own_by (B := T3.setTop (mkF m 29 #[.val (.ref r0), .val (.int (2 : Int32)), .val (.ref r1), .val (.int (2 : Int32)), .val (.int (0 : Int32)), .val (.int w0)] [])) (fun t k => XS.istore X3.here hx rfl (hb hby d5_27) rfl (l' := #[.val (.ref r0), .val (.int (2 : Int32)), .val (.ref r1), .val (.int (2 : Int32)), .val (.int (0 : Int32)), .val (.int w0)]) rfl k) ?_
  refine own_by (B := T3.setTop (mkF m 30 #[.val (.ref r0), .val (.int (2 : Int32)), .val (.ref r1), .val (.int (2 : Int32)), .val (.int (0 : Int32)), .val (.int w0)] [(.int (2 : Int32))])) (fun t k => XS.iloadN X3.here hx rfl (hb hby d5_29) rfl k) ?_
  refine own_by (B := T3.setTop (mkF m 32 #[.val (.ref r0), .val (.int (2 : Int32)), .val (.ref r1), .val (.int (2 : Int32)), .val (.int (0 : Int32)), .val (.int w0)] [(.int w0), (.int (2 : Int32))])) (fun t k => XS.iload X3.here hx rfl (hb hby d5_30) rfl k) ?_
  refine own_by (B := T3.setTop (mkF m 33 #[.val (.ref r0), .val (.int (2 : Int32)), .val (.ref r1), .val (.int (2 : Int32)), .val (.int (0 : Int32)), .val (.int w0)] [(.int ((2 : Int32) ^^^ w0))])) (fun t k => XS.ixor X3.here hx rfl (hb hby d5_32) rfl k) ?_
  refine own_by (B := T3.setTop (mkF m 35 #[.val (.ref r0), .val (.int (2 : Int32)), .val (.ref r1), .val (.int (2 : Int32)), .val (.int (0 : Int32)), .val (.int w0)] [(.int (-1640531527 : Int32)), (.int ((2 : Int32) ^^^ w0))])) (fun t k => X3.ldcInt hx hown (mvT hZ (hw _ (List.mem_of_getElem? (i := 26) rfl))) (g := (mkF m 33 #[.val (.ref r0), .val (.int (2 : Int32)), .val (.ref r1), .val (.int (2 : Int32)), .val (.int (0 : Int32)), .val (.int w0)] [(.int ((2 : Int32) ^^^ w0))])) rfl (hb hby d5_33) _ k) ?_
  refine own_by (B := T3.setTop (mkF m 36 #[.val (.ref r0), .val (.int (2 : Int32)), .val (.ref r1), .val (.int (2 : Int32)), .val (.int (0 : Int32)), .val (.int w0)] [(.int (((2 : Int32) ^^^ w0) * (-1640531527 : Int32)))])) (fun t k => XS.imul X3.here hx rfl (hb hby d5_35) rfl k) ?_
  refine own_by (B := T3.setTop (mkF m 37 #[.val (.ref r0), .val (.int (((2 : Int32) ^^^ w0) * (-1640531527 : Int32))), .val (.ref r1), .val (.int (2 : Int32)), .val (.int (0 : Int32)), .val (.int w0)] [])) (fun t k => XS.istoreN X3.here hx rfl (hb hby d5_36) rfl (l' := #[.val (.ref r0), .val (.int (((2 : Int32) ^^^ w0) * (-1640531527 : Int32))), .val (.ref r1), .val (.int (2 : Int32)), .val (.int (0 : Int32)), .val (.int w0)]) rfl k) ?_
  refine own_by (B := T3.setTop (mkF m 40 #[.val (.ref r0), .val (.int (((2 : Int32) ^^^ w0) * (-1640531527 : Int32))), .val (.ref r1), .val (.int (2 : Int32)), .val (.int (1 : Int32)), .val (.int w0)] [])) (fun t k => XS.iinc X3.here hx rfl (hb hby d5_37) rfl (l' := #[.val (.ref r0), .val (.int (((2 : Int32) ^^^ w0) * (-1640531527 : Int32))), .val (.ref r1), .val (.int (2 : Int32)), .val (.int (1 : Int32)), .val (.int w0)]) rfl k) ?_
  refine own_by (B := T3.setTop (mkF m 17 #[.val (.ref r0), .val (.int (((2 : Int32) ^^^ w0) * (-1640531527 : Int32))), .val (.ref r1), .val (.int (2 : Int32)), .val (.int (1 : Int32)), .val (.int w0)] [])) (fun t k => XS.goto X3.here hx rfl (pc0 := 40) (pc' := 17) rfl (hb hby d5_40) (by decide) (by decide) k) ?_
  refine own_by (B := T3.setTop (mkF m 19 #[.val (.ref r0), .val (.int (((2 : Int32) ^^^ w0) * (-1640531527 : Int32))), .val (.ref r1), .val (.int (2 : Int32)), .val (.int (1 : Int32)), .val (.int w0)] [(.int (1 : Int32))])) (fun t k => XS.iload X3.here hx rfl (hb hby d5_17) rfl k) ?_
  refine own_by (B := T3.setTop (mkF m 20 #[.val (.ref r0), .val (.int (((2 : Int32) ^^^ w0) * (-1640531527 : Int32))), .val (.ref r1), .val (.int (2 : Int32)), .val (.int (1 : Int32)), .val (.int w0)] [(.int (2 : Int32)), (.int (1 : Int32))])) (fun t k => XS.iloadN X3.here hx rfl (hb hby d5_19) rfl k) ?_
  refine own_by (B := T3.setTop (mkF m 23 #[.val (.ref r0), .val (.int (((2 : Int32) ^^^ w0) * (-1640531527 : Int32))), .val (.ref r1), .val (.int (2 : Int32)), .val (.int (1 : Int32)), .val (.int w0)] [])) (fun t k => XS.icmpNo X3.here hx rfl (hb hby d5_20) rfl (tlt (by decide)).2.1 k) ?_
  refine own_by (B := T3.setTop (mkF m 24 #[.val (.ref r0), .val (.int (((2 : Int32) ^^^ w0) * (-1640531527 : Int32))), .val (.ref r1), .val (.int (2 : Int32)), .val (.int (1 : Int32)), .val (.int w0)] [(.ref r1)])) (fun t k => XS.aloadN X3.here hx rfl (hb hby d5_23) rfl rfl k) ?_
  refine own_by (B := T3.setTop (mkF m 26 #[.val (.ref r0), .val (.int (((2 : Int32) ^^^ w0) * (-1640531527 : Int32))), .val (.ref r1), .val (.int (2 : Int32)), .val (.int (1 : Int32)), .val (.int w0)] [(.int (1 : Int32)), (.ref r1)])) (fun t k => XS.iload X3.here hx rfl (hb hby d5_24) rfl k) ?_
  obtain ⟨cl6, Ar6, hin6, hat6⟩ := V_r1.at (j := (1 : Int32)) ⟨by decide, by decide⟩
  have hat6 := hat6.trans (congrArg some (show _ = (.int w1) from hf1))
  refine own_by (B := T3.setTop (mkF m 27 #[.val (.ref r0), .val (.int (((2 : Int32) ^^^ w0) * (-1640531527 : Int32))), .val (.ref r1), .val (.int (2 : Int32)), .val (.int (1 : Int32)), .val (.int w0)] [(.int w1)])) (fun t k => X3.iaload hx (j := (1 : Int32)) (v := (.int w1)) (by rw [e3]; exact Ar6.1) (State.isArrayOf_alike hZ.alike Ar6.2.1) Ar6.2.2 hin6 hat6 (g := (mkF m 26 #[.val (.ref r0), .val (.int (((2 : Int32) ^^^ w0) * (-1640531527 : Int32))), .val (.ref r1), .val (.int (2 : Int32)), .val (.int (1 : Int32)), .val (.int w0)] [(.int (1 : Int32)), (.ref r1)])) rfl rfl (hb hby d5_26) _ k) ?_
  refine own_by (B := T3.setTop (mkF m 29 #[.val (.ref r0), .val (.int (((2 : Int32) ^^^ w0) * (-1640531527 : Int32))), .val (.ref r1), .val (.int (2 : Int32)), .val (.int (1 : Int32)), .val (.int w1)] [])) (fun t k => XS.istore X3.here hx rfl (hb hby d5_27) rfl (l' := #[.val (.ref r0), .val (.int (((2 : Int32) ^^^ w0) * (-1640531527 : Int32))), .val (.ref r1), .val (.int (2 : Int32)), .val (.int (1 : Int32)), .val (.int w1)]) rfl k) ?_
  refine own_by (B := T3.setTop (mkF m 30 #[.val (.ref r0), .val (.int (((2 : Int32) ^^^ w0) * (-1640531527 : Int32))), .val (.ref r1), .val (.int (2 : Int32)), .val (.int (1 : Int32)), .val (.int w1)] [(.int (((2 : Int32) ^^^ w0) * (-1640531527 : Int32)))])) (fun t k => XS.iloadN X3.here hx rfl (hb hby d5_29) rfl k) ?_
  refine own_by (B := T3.setTop (mkF m 32 #[.val (.ref r0), .val (.int (((2 : Int32) ^^^ w0) * (-1640531527 : Int32))), .val (.ref r1), .val (.int (2 : Int32)), .val (.int (1 : Int32)), .val (.int w1)] [(.int w1), (.int (((2 : Int32) ^^^ w0) * (-1640531527 : Int32)))])) (fun t k => XS.iload X3.here hx rfl (hb hby d5_30) rfl k) ?_
  refine own_by (B := T3.setTop (mkF m 33 #[.val (.ref r0), .val (.int (((2 : Int32) ^^^ w0) * (-1640531527 : Int32))), .val (.ref r1), .val (.int (2 : Int32)), .val (.int (1 : Int32)), .val (.int w1)] [(.int ((((2 : Int32) ^^^ w0) * (-1640531527 : Int32)) ^^^ w1))])) (fun t k => XS.ixor X3.here hx rfl (hb hby d5_32) rfl k) ?_
  refine own_by (B := T3.setTop (mkF m 35 #[.val (.ref r0), .val (.int (((2 : Int32) ^^^ w0) * (-1640531527 : Int32))), .val (.ref r1), .val (.int (2 : Int32)), .val (.int (1 : Int32)), .val (.int w1)] [(.int (-1640531527 : Int32)), (.int ((((2 : Int32) ^^^ w0) * (-1640531527 : Int32)) ^^^ w1))])) (fun t k => X3.ldcInt hx hown (mvT hZ (hw _ (List.mem_of_getElem? (i := 26) rfl))) (g := (mkF m 33 #[.val (.ref r0), .val (.int (((2 : Int32) ^^^ w0) * (-1640531527 : Int32))), .val (.ref r1), .val (.int (2 : Int32)), .val (.int (1 : Int32)), .val (.int w1)] [(.int ((((2 : Int32) ^^^ w0) * (-1640531527 : Int32)) ^^^ w1))])) rfl (hb hby d5_33) _ k) ?_
  refine own_by (B := T3.setTop (mkF m 36 #[.val (.ref r0), .val (.int (((2 : Int32) ^^^ w0) * (-1640531527 : Int32))), .val (.ref r1), .val (.int (2 : Int32)), .val (.int (1 : Int32)), .val (.int w1)] [(.int (((((2 : Int32) ^^^ w0) * (-1640531527 : Int32)) ^^^ w1) * (-1640531527 : Int32)))])) (fun t k => XS.imul X3.here hx rfl (hb hby d5_35) rfl k) ?_
  refine own_by (B := T3.setTop (mkF m 37 #[.val (.ref r0), .val (.int (((((2 : Int32) ^^^ w0) * (-1640531527 : Int32)) ^^^ w1) * (-1640531527 : Int32))), .val (.ref r1), .val (.int (2 : Int32)), .val (.int (1 : Int32)), .val (.int w1)] [])) (fun t k => XS.istoreN X3.here hx rfl (hb hby d5_36) rfl (l' := #[.val (.ref r0), .val (.int (((((2 : Int32) ^^^ w0) * (-1640531527 : Int32)) ^^^ w1) * (-1640531527 : Int32))), .val (.ref r1), .val (.int (2 : Int32)), .val (.int (1 : Int32)), .val (.int w1)]) rfl k) ?_
  refine own_by (B := T3.setTop (mkF m 40 #[.val (.ref r0), .val (.int (((((2 : Int32) ^^^ w0) * (-1640531527 : Int32)) ^^^ w1) * (-1640531527 : Int32))), .val (.ref r1), .val (.int (2 : Int32)), .val (.int (2 : Int32)), .val (.int w1)] [])) (fun t k => XS.iinc X3.here hx rfl (hb hby d5_37) rfl (l' := #[.val (.ref r0), .val (.int (((((2 : Int32) ^^^ w0) * (-1640531527 : Int32)) ^^^ w1) * (-1640531527 : Int32))), .val (.ref r1), .val (.int (2 : Int32)), .val (.int (2 : Int32)), .val (.int w1)]) rfl k) ?_
  refine own_by (B := T3.setTop (mkF m 17 #[.val (.ref r0), .val (.int (((((2 : Int32) ^^^ w0) * (-1640531527 : Int32)) ^^^ w1) * (-1640531527 : Int32))), .val (.ref r1), .val (.int (2 : Int32)), .val (.int (2 : Int32)), .val (.int w1)] [])) (fun t k => XS.goto X3.here hx rfl (pc0 := 40) (pc' := 17) rfl (hb hby d5_40) (by decide) (by decide) k) ?_
  refine own_by (B := T3.setTop (mkF m 19 #[.val (.ref r0), .val (.int (((((2 : Int32) ^^^ w0) * (-1640531527 : Int32)) ^^^ w1) * (-1640531527 : Int32))), .val (.ref r1), .val (.int (2 : Int32)), .val (.int (2 : Int32)), .val (.int w1)] [(.int (2 : Int32))])) (fun t k => XS.iload X3.here hx rfl (hb hby d5_17) rfl k) ?_
  refine own_by (B := T3.setTop (mkF m 20 #[.val (.ref r0), .val (.int (((((2 : Int32) ^^^ w0) * (-1640531527 : Int32)) ^^^ w1) * (-1640531527 : Int32))), .val (.ref r1), .val (.int (2 : Int32)), .val (.int (2 : Int32)), .val (.int w1)] [(.int (2 : Int32)), (.int (2 : Int32))])) (fun t k => XS.iloadN X3.here hx rfl (hb hby d5_19) rfl k) ?_
  refine own_by (B := T3.setTop (mkF m 43 #[.val (.ref r0), .val (.int (((((2 : Int32) ^^^ w0) * (-1640531527 : Int32)) ^^^ w1) * (-1640531527 : Int32))), .val (.ref r1), .val (.int (2 : Int32)), .val (.int (2 : Int32)), .val (.int w1)] [])) (fun t k => XS.icmpYes X3.here hx rfl (pc0 := 20) (pc' := 43) rfl (hb hby d5_20) rfl (flt (by decide)).2.1 (by decide) (by decide) k) ?_
  refine own_by (B := T3.setTop (mkF m 44 #[.val (.ref r0), .val (.int (((((2 : Int32) ^^^ w0) * (-1640531527 : Int32)) ^^^ w1) * (-1640531527 : Int32))), .val (.ref r1), .val (.int (2 : Int32)), .val (.int (2 : Int32)), .val (.int w1)] [(.int (((((2 : Int32) ^^^ w0) * (-1640531527 : Int32)) ^^^ w1) * (-1640531527 : Int32)))])) (fun t k => XS.iloadN X3.here hx rfl (hb hby d5_43) rfl k) ?_
  refine own_by (B := T3.setTop (mkF m 45 #[.val (.ref r0), .val (.int (((((2 : Int32) ^^^ w0) * (-1640531527 : Int32)) ^^^ w1) * (-1640531527 : Int32))), .val (.ref r1), .val (.int (2 : Int32)), .val (.int (2 : Int32)), .val (.int w1)] [(.int (((((2 : Int32) ^^^ w0) * (-1640531527 : Int32)) ^^^ w1) * (-1640531527 : Int32))), (.int (((((2 : Int32) ^^^ w0) * (-1640531527 : Int32)) ^^^ w1) * (-1640531527 : Int32)))])) (fun t k => XS.iloadN X3.here hx rfl (hb hby d5_44) rfl k) ?_
  refine own_by (B := T3.setTop (mkF m 47 #[.val (.ref r0), .val (.int (((((2 : Int32) ^^^ w0) * (-1640531527 : Int32)) ^^^ w1) * (-1640531527 : Int32))), .val (.ref r1), .val (.int (2 : Int32)), .val (.int (2 : Int32)), .val (.int w1)] [(.int (16 : Int32)), (.int (((((2 : Int32) ^^^ w0) * (-1640531527 : Int32)) ^^^ w1) * (-1640531527 : Int32))), (.int (((((2 : Int32) ^^^ w0) * (-1640531527 : Int32)) ^^^ w1) * (-1640531527 : Int32)))])) (fun t k => XS.bipush X3.here hx rfl (hb hby d5_45) k) ?_
  refine own_by (B := T3.setTop (mkF m 48 #[.val (.ref r0), .val (.int (((((2 : Int32) ^^^ w0) * (-1640531527 : Int32)) ^^^ w1) * (-1640531527 : Int32))), .val (.ref r1), .val (.int (2 : Int32)), .val (.int (2 : Int32)), .val (.int w1)] [(.int (((((((2 : Int32) ^^^ w0) * (-1640531527 : Int32)) ^^^ w1) * (-1640531527 : Int32)).toUInt32 >>> ((16 : Int32) &&& 31).toUInt32).toInt32)), (.int (((((2 : Int32) ^^^ w0) * (-1640531527 : Int32)) ^^^ w1) * (-1640531527 : Int32)))])) (fun t k => XS.iushr X3.here hx rfl (hb hby d5_47) rfl k) ?_
  refine own_by (B := T3.setTop (mkF m 49 #[.val (.ref r0), .val (.int (((((2 : Int32) ^^^ w0) * (-1640531527 : Int32)) ^^^ w1) * (-1640531527 : Int32))), .val (.ref r1), .val (.int (2 : Int32)), .val (.int (2 : Int32)), .val (.int w1)] [(.int ((((((2 : Int32) ^^^ w0) * (-1640531527 : Int32)) ^^^ w1) * (-1640531527 : Int32)) ^^^ (((((((2 : Int32) ^^^ w0) * (-1640531527 : Int32)) ^^^ w1) * (-1640531527 : Int32)).toUInt32 >>> ((16 : Int32) &&& 31).toUInt32).toInt32)))])) (fun t k => XS.ixor X3.here hx rfl (hb hby d5_48) rfl k) ?_
  exact own_end X3 (v := some (.int ((((((2 : Int32) ^^^ w0) * (-1640531527 : Int32)) ^^^ w1) * (-1640531527 : Int32)) ^^^ (((((((2 : Int32) ^^^ w0) * (-1640531527 : Int32)) ^^^ w1) * (-1640531527 : Int32)).toUInt32 >>> ((16 : Int32) &&& 31).toUInt32).toInt32)))) (fun h => by rw [Bd.returns] at h; cases h) (BodyLoose.notSynchronized Bd) (Q := (Q_rmH2 Z r0 r1 f w0 w1 h0 n0)) (fun fs hr => retI X3 hx Bd.returns (hb hby d5_49) hr) (show (Q_rmH2 Z r0 r1 f w0 w1 h0 n0) _ T3.heap _ from (by rw [e3]; exact ⟨rfl, Nf, rfl⟩)) (by decide) (by decide)
theorem ef_rmH3 (m : MethodId) (x0 : Addr) : entryFrame m #[(.ref x0)] 6 = mkF m 0 #[.val (.ref x0), .unset, .unset, .unset, .unset, .unset] [] := by first | (simp [entryFrame, mkF, argsToLocals, Value.category]; done) | rfl
def Q_rmH3 (Z : State) (r0 : Addr) (r1 : Addr) (f : Nat → Value) (w0 : Int32) (w1 : Int32) (w2 : Int32) (h0 : Heap) (n0 : Nat) (v : Option Value) (h : Heap) (L : List Loc) : Prop := v = some (.int (own_fin (own_mix (own_mix (own_mix (3 : Int32) w0) w1) w2))) ∧ Fr n0 L ∧ h = h0
set_option maxRecDepth 65536 in
set_option maxHeartbeats 40000000 in
theorem rmH3 (l : Launch) (Z : State) (a0 : Array Value) (hw : ∀ d ∈ tables_1, d.before a0 Z = true) (ws : List Jvm.Cond) (r0 : Addr) (r1 : Addr) (f : Nat → Value) (w0 : Int32) (w1 : Int32) (w2 : Int32) (h0 : Heap) (n0 : Nat) (Z0 : n0 ≤ h0.size) (F_states_r0 : Fld Z h0 r0 "com/example/processes_as_trees/processesastrees/StateTuple" "states" "[I" (.ref r1)) (V_r1 : own_Arf Z h0 r1 .int (3 : Int32) f) (hf0 : f 0 = .int w0) (hf1 : f 1 = .int w1) (hf2 : f 2 = .int w2) :
    MetFree l (⟨"com/example/processes_as_trees/processesastrees/StateTuple", "hashCode", "()I"⟩ : MethodName) (head1 (Jvm.Cond.code (⟨"com/example/processes_as_trees/processesastrees/StateTuple", "hashCode", "()I"⟩ : MethodName) prog_52_method_3_code 6 (some .int) :: ws) ({ frames := 0, cells := 0, slots := 0, locals := 0 } : Room)) (fun a U => a = #[(.ref r0)] ∧ Z.Warmed39 U.vm ∧ U.heap = h0) (fun _ _ _ _ _ => True) (fun _ U o U' => ∃ v L, o = .returned v ∧ Q_rmH3 Z r0 r1 f w0 w1 w2 h0 n0 v U'.heap L ∧ FrameEnd U o U' L ({ frames := 0, cells := 0, slots := 0, locals := 0 } : Room).cells ({ frames := 0, cells := 0, slots := 0, locals := 0 } : Room).slots) := by
  refine MetFree.of_bodySF (plainFor_of_name own_pn1) hisR ?_
  intro p e s m args below meth c s₁ Bd hml0 hP hK
  obtain ⟨rfl, hZ, hh⟩ := hP
  have hx := Bd.exec
  have hby := Bd.bytes
  have hml : c.maxLocals = 6 := hml0
  have hown : s.vm.findClass "com/example/processes_as_trees/processesastrees/StateTuple" = some m.cls := findClass_of_methodNamed Bd.named
  have hnm := (name_of_methodNamed Bd.named Bd.method).1
  have X0 : Stand p l e ({ frames := 0, cells := 0, slots := 0, locals := 0 } : Room) s m #[(.ref r0)] below meth c s₁ [] 0 0 := Stand.of_body Bd
  have e0 : s₁.heap = h0 := by rw [← hh, Bd.state]; rfl
  show own_Go p e below (s₁.setTop (entryFrame m #[(.ref r0)] 6)) (fun t o => ∃ v L, o = .returned v ∧ Q_rmH3 Z r0 r1 f w0 w1 w2 h0 n0 v t.heap L ∧ FrameEnd s o t L ({ frames := 0, cells := 0, slots := 0, locals := 0 } : Room).cells ({ frames := 0, cells := 0, slots := 0, locals := 0 } : Room).slots)
  refine own_by (B := s₁.setTop (mkF m 0 #[.val (.ref r0), .unset, .unset, .unset, .unset, .unset] [])) (fun t k => castTop (ef_rmH3 m r0) k) ?_
  have Nf := Fr.nil n0
  have Zs := Z0
  refine own_by (B := s₁.setTop (mkF m 1 #[.val (.ref r0), .unset, .unset, .unset, .unset, .unset] [(.ref r0)])) (fun t k => XS.aloadN X0.here hx rfl (hb hby d5_0) rfl rfl k) ?_
  obtain ⟨T1, X1, e1, st1⟩ := getF X0 hx hZ hown (host := "") (Or.inl (hw _ (List.mem_of_getElem? (i := 19) rfl))) Via.refl e0 F_states_r0 (g := (mkF m 1 #[.val (.ref r0), .unset, .unset, .unset, .unset, .unset] [(.ref r0)])) rfl rfl (hb hby d5_1)
  refine own_by (B := T1.setTop (mkF m 4 #[.val (.ref r0), .unset, .unset, .unset, .unset, .unset] [(.ref r1)])) st1 ?_
  obtain ⟨cl2, Ar2, Sz2, Ng2, -⟩ := id V_r1
  refine own_by (B := T1.setTop (mkF m 5 #[.val (.ref r0), .unset, .unset, .unset, .unset, .unset] [(.int (3 : Int32))])) (fun t k => X1.arraylength hx (by rw [e1]; exact Ar2.1) (State.isArrayOf_alike hZ.alike Ar2.2.1) (g := (mkF m 4 #[.val (.ref r0), .unset, .unset, .unset, .unset, .unset] [(.ref r1)])) rfl rfl (hb hby d5_4) _ (by rw [len_of Sz2 Ng2]; exact k)) ?_
  refine own_by (B := T1.setTop (mkF m 6 #[.val (.ref r0), .val (.int (3 : Int32)), .unset, .unset, .unset, .unset] [])) (fun t k => XS.istoreN X1.here hx rfl (hb hby d5_5) rfl (l' := #[.val (.ref r0), .val (.int (3 : Int32)), .unset, .unset, .unset, .unset]) rfl k) ?_
  refine own_by (B := T1.setTop (mkF m 7 #[.val (.ref r0), .val (.int (3 : Int32)), .unset, .unset, .unset, .unset] [(.ref r0)])) (fun t k => XS.aloadN X1.here hx rfl (hb hby d5_6) rfl rfl k) ?_
  obtain ⟨T3, X3, e3, st3⟩ := getF X1 hx hZ hown (host := "") (Or.inl (hw _ (List.mem_of_getElem? (i := 19) rfl))) Via.refl e1 F_states_r0 (g := (mkF m 7 #[.val (.ref r0), .val (.int (3 : Int32)), .unset, .unset, .unset, .unset] [(.ref r0)])) rfl rfl (hb hby d5_7)
  refine own_by (B := T3.setTop (mkF m 10 #[.val (.ref r0), .val (.int (3 : Int32)), .unset, .unset, .unset, .unset] [(.ref r1)])) st3 ?_
  refine own_by (B := T3.setTop (mkF m 11 #[.val (.ref r0), .val (.int (3 : Int32)), .val (.ref r1), .unset, .unset, .unset] [])) (fun t k => XS.astoreN X3.here hx rfl (hb hby d5_10) rfl rfl (l' := #[.val (.ref r0), .val (.int (3 : Int32)), .val (.ref r1), .unset, .unset, .unset]) rfl k) ?_
  refine own_by (B := T3.setTop (mkF m 12 #[.val (.ref r0), .val (.int (3 : Int32)), .val (.ref r1), .unset, .unset, .unset] [(.ref r1)])) (fun t k => XS.aloadN X3.here hx rfl (hb hby d5_11) rfl rfl k) ?_
  obtain ⟨cl4, Ar4, Sz4, Ng4, -⟩ := id V_r1
  refine own_by (B := T3.setTop (mkF m 13 #[.val (.ref r0), .val (.int (3 : Int32)), .val (.ref r1), .unset, .unset, .unset] [(.int (3 : Int32))])) (fun t k => X3.arraylength hx (by rw [e3]; exact Ar4.1) (State.isArrayOf_alike hZ.alike Ar4.2.1) (g := (mkF m 12 #[.val (.ref r0), .val (.int (3 : Int32)), .val (.ref r1), .unset, .unset, .unset] [(.ref r1)])) rfl rfl (hb hby d5_12) _ (by rw [len_of Sz4 Ng4]; exact k)) ?_
  refine own_by (B := T3.setTop (mkF m 14 #[.val (.ref r0), .val (.int (3 : Int32)), .val (.ref r1), .val (.int (3 : Int32)), .unset, .unset] [])) (fun t k => XS.istoreN X3.here hx rfl (hb hby d5_13) rfl (l' := #[.val (.ref r0), .val (.int (3 : Int32)), .val (.ref r1), .val (.int (3 : Int32)), .unset, .unset]) rfl k) ?_
  refine own_by (B := T3.setTop (mkF m 15 #[.val (.ref r0), .val (.int (3 : Int32)), .val (.ref r1), .val (.int (3 : Int32)), .unset, .unset] [(.int (0 : Int32))])) (fun t k => XS.iconst X3.here hx rfl (hb hby d5_14) k) ?_
  refine own_by (B := T3.setTop (mkF m 17 #[.val (.ref r0), .val (.int (3 : Int32)), .val (.ref r1), .val (.int (3 : Int32)), .val (.int (0 : Int32)), .unset] [])) (fun t k => XS.istore X3.here hx rfl (hb hby d5_15) rfl (l' := #[.val (.ref r0), .val (.int (3 : Int32)), .val (.ref r1), .val (.int (3 : Int32)), .val (.int (0 : Int32)), .unset]) rfl k) ?_
  refine own_by (B := T3.setTop (mkF m 19 #[.val (.ref r0), .val (.int (3 : Int32)), .val (.ref r1), .val (.int (3 : Int32)), .val (.int (0 : Int32)), .unset] [(.int (0 : Int32))])) (fun t k => XS.iload X3.here hx rfl (hb hby d5_17) rfl k) ?_
  refine own_by (B := T3.setTop (mkF m 20 #[.val (.ref r0), .val (.int (3 : Int32)), .val (.ref r1), .val (.int (3 : Int32)), .val (.int (0 : Int32)), .unset] [(.int (3 : Int32)), (.int (0 : Int32))])) (fun t k => XS.iloadN X3.here hx rfl (hb hby d5_19) rfl k) ?_
  refine own_by (B := T3.setTop (mkF m 23 #[.val (.ref r0), .val (.int (3 : Int32)), .val (.ref r1), .val (.int (3 : Int32)), .val (.int (0 : Int32)), .unset] [])) (fun t k => XS.icmpNo X3.here hx rfl (hb hby d5_20) rfl (tlt (by decide)).2.1 k) ?_
  refine own_by (B := T3.setTop (mkF m 24 #[.val (.ref r0), .val (.int (3 : Int32)), .val (.ref r1), .val (.int (3 : Int32)), .val (.int (0 : Int32)), .unset] [(.ref r1)])) (fun t k => XS.aloadN X3.here hx rfl (hb hby d5_23) rfl rfl k) ?_
  refine own_by (B := T3.setTop (mkF m 26 #[.val (.ref r0), .val (.int (3 : Int32)), .val (.ref r1), .val (.int (3 : Int32)), .val (.int (0 : Int32)), .unset] [(.int (0 : Int32)), (.ref r1)])) (fun t k => XS.iload X3.here hx rfl (hb hby d5_24) rfl k) ?_
  obtain ⟨cl5, Ar5, hin5, hat5⟩ := V_r1.at (j := (0 : Int32)) ⟨by decide, by decide⟩
  have hat5 := hat5.trans (congrArg some (show _ = (.int w0) from hf0))
  refine own_by (B := T3.setTop (mkF m 27 #[.val (.ref r0), .val (.int (3 : Int32)), .val (.ref r1), .val (.int (3 : Int32)), .val (.int (0 : Int32)), .unset] [(.int w0)])) (fun t k => X3.iaload hx (j := (0 : Int32)) (v := (.int w0)) (by rw [e3]; exact Ar5.1) (State.isArrayOf_alike hZ.alike Ar5.2.1) Ar5.2.2 hin5 hat5 (g := (mkF m 26 #[.val (.ref r0), .val (.int (3 : Int32)), .val (.ref r1), .val (.int (3 : Int32)), .val (.int (0 : Int32)), .unset] [(.int (0 : Int32)), (.ref r1)])) rfl rfl (hb hby d5_26) _ k) ?_
  refine own_by (B := T3.setTop (mkF m 29 #[.val (.ref r0), .val (.int (3 : Int32)), .val (.ref r1), .val (.int (3 : Int32)), .val (.int (0 : Int32)), .val (.int w0)] [])) (fun t k => XS.istore X3.here hx rfl (hb hby d5_27) rfl (l' := #[.val (.ref r0), .val (.int (3 : Int32)), .val (.ref r1), .val (.int (3 : Int32)), .val (.int (0 : Int32)), .val (.int w0)]) rfl k) ?_
  refine own_by (B := T3.setTop (mkF m 30 #[.val (.ref r0), .val (.int (3 : Int32)), .val (.ref r1), .val (.int (3 : Int32)), .val (.int (0 : Int32)), .val (.int w0)] [(.int (3 : Int32))])) (fun t k => XS.iloadN X3.here hx rfl (hb hby d5_29) rfl k) ?_
  refine own_by (B := T3.setTop (mkF m 32 #[.val (.ref r0), .val (.int (3 : Int32)), .val (.ref r1), .val (.int (3 : Int32)), .val (.int (0 : Int32)), .val (.int w0)] [(.int w0), (.int (3 : Int32))])) (fun t k => XS.iload X3.here hx rfl (hb hby d5_30) rfl k) ?_
  refine own_by (B := T3.setTop (mkF m 33 #[.val (.ref r0), .val (.int (3 : Int32)), .val (.ref r1), .val (.int (3 : Int32)), .val (.int (0 : Int32)), .val (.int w0)] [(.int ((3 : Int32) ^^^ w0))])) (fun t k => XS.ixor X3.here hx rfl (hb hby d5_32) rfl k) ?_
  refine own_by (B := T3.setTop (mkF m 35 #[.val (.ref r0), .val (.int (3 : Int32)), .val (.ref r1), .val (.int (3 : Int32)), .val (.int (0 : Int32)), .val (.int w0)] [(.int (-1640531527 : Int32)), (.int ((3 : Int32) ^^^ w0))])) (fun t k => X3.ldcInt hx hown (mvT hZ (hw _ (List.mem_of_getElem? (i := 26) rfl))) (g := (mkF m 33 #[.val (.ref r0), .val (.int (3 : Int32)), .val (.ref r1), .val (.int (3 : Int32)), .val (.int (0 : Int32)), .val (.int w0)] [(.int ((3 : Int32) ^^^ w0))])) rfl (hb hby d5_33) _ k) ?_
  refine own_by (B := T3.setTop (mkF m 36 #[.val (.ref r0), .val (.int (3 : Int32)), .val (.ref r1), .val (.int (3 : Int32)), .val (.int (0 : Int32)), .val (.int w0)] [(.int (((3 : Int32) ^^^ w0) * (-1640531527 : Int32)))])) (fun t k => XS.imul X3.here hx rfl (hb hby d5_35) rfl k) ?_
  refine own_by (B := T3.setTop (mkF m 37 #[.val (.ref r0), .val (.int (((3 : Int32) ^^^ w0) * (-1640531527 : Int32))), .val (.ref r1), .val (.int (3 : Int32)), .val (.int (0 : Int32)), .val (.int w0)] [])) (fun t k => XS.istoreN X3.here hx rfl (hb hby d5_36) rfl (l' := #[.val (.ref r0), .val (.int (((3 : Int32) ^^^ w0) * (-1640531527 : Int32))), .val (.ref r1), .val (.int (3 : Int32)), .val (.int (0 : Int32)), .val (.int w0)]) rfl k) ?_
  refine own_by (B := T3.setTop (mkF m 40 #[.val (.ref r0), .val (.int (((3 : Int32) ^^^ w0) * (-1640531527 : Int32))), .val (.ref r1), .val (.int (3 : Int32)), .val (.int (1 : Int32)), .val (.int w0)] [])) (fun t k => XS.iinc X3.here hx rfl (hb hby d5_37) rfl (l' := #[.val (.ref r0), .val (.int (((3 : Int32) ^^^ w0) * (-1640531527 : Int32))), .val (.ref r1), .val (.int (3 : Int32)), .val (.int (1 : Int32)), .val (.int w0)]) rfl k) ?_
  refine own_by (B := T3.setTop (mkF m 17 #[.val (.ref r0), .val (.int (((3 : Int32) ^^^ w0) * (-1640531527 : Int32))), .val (.ref r1), .val (.int (3 : Int32)), .val (.int (1 : Int32)), .val (.int w0)] [])) (fun t k => XS.goto X3.here hx rfl (pc0 := 40) (pc' := 17) rfl (hb hby d5_40) (by decide) (by decide) k) ?_
  refine own_by (B := T3.setTop (mkF m 19 #[.val (.ref r0), .val (.int (((3 : Int32) ^^^ w0) * (-1640531527 : Int32))), .val (.ref r1), .val (.int (3 : Int32)), .val (.int (1 : Int32)), .val (.int w0)] [(.int (1 : Int32))])) (fun t k => XS.iload X3.here hx rfl (hb hby d5_17) rfl k) ?_
  refine own_by (B := T3.setTop (mkF m 20 #[.val (.ref r0), .val (.int (((3 : Int32) ^^^ w0) * (-1640531527 : Int32))), .val (.ref r1), .val (.int (3 : Int32)), .val (.int (1 : Int32)), .val (.int w0)] [(.int (3 : Int32)), (.int (1 : Int32))])) (fun t k => XS.iloadN X3.here hx rfl (hb hby d5_19) rfl k) ?_
  refine own_by (B := T3.setTop (mkF m 23 #[.val (.ref r0), .val (.int (((3 : Int32) ^^^ w0) * (-1640531527 : Int32))), .val (.ref r1), .val (.int (3 : Int32)), .val (.int (1 : Int32)), .val (.int w0)] [])) (fun t k => XS.icmpNo X3.here hx rfl (hb hby d5_20) rfl (tlt (by decide)).2.1 k) ?_
  refine own_by (B := T3.setTop (mkF m 24 #[.val (.ref r0), .val (.int (((3 : Int32) ^^^ w0) * (-1640531527 : Int32))), .val (.ref r1), .val (.int (3 : Int32)), .val (.int (1 : Int32)), .val (.int w0)] [(.ref r1)])) (fun t k => XS.aloadN X3.here hx rfl (hb hby d5_23) rfl rfl k) ?_
  refine own_by (B := T3.setTop (mkF m 26 #[.val (.ref r0), .val (.int (((3 : Int32) ^^^ w0) * (-1640531527 : Int32))), .val (.ref r1), .val (.int (3 : Int32)), .val (.int (1 : Int32)), .val (.int w0)] [(.int (1 : Int32)), (.ref r1)])) (fun t k => XS.iload X3.here hx rfl (hb hby d5_24) rfl k) ?_
  obtain ⟨cl6, Ar6, hin6, hat6⟩ := V_r1.at (j := (1 : Int32)) ⟨by decide, by decide⟩
  have hat6 := hat6.trans (congrArg some (show _ = (.int w1) from hf1))
  refine own_by (B := T3.setTop (mkF m 27 #[.val (.ref r0), .val (.int (((3 : Int32) ^^^ w0) * (-1640531527 : Int32))), .val (.ref r1), .val (.int (3 : Int32)), .val (.int (1 : Int32)), .val (.int w0)] [(.int w1)])) (fun t k => X3.iaload hx (j := (1 : Int32)) (v := (.int w1)) (by rw [e3]; exact Ar6.1) (State.isArrayOf_alike hZ.alike Ar6.2.1) Ar6.2.2 hin6 hat6 (g := (mkF m 26 #[.val (.ref r0), .val (.int (((3 : Int32) ^^^ w0) * (-1640531527 : Int32))), .val (.ref r1), .val (.int (3 : Int32)), .val (.int (1 : Int32)), .val (.int w0)] [(.int (1 : Int32)), (.ref r1)])) rfl rfl (hb hby d5_26) _ k) ?_
  refine own_by (B := T3.setTop (mkF m 29 #[.val (.ref r0), .val (.int (((3 : Int32) ^^^ w0) * (-1640531527 : Int32))), .val (.ref r1), .val (.int (3 : Int32)), .val (.int (1 : Int32)), .val (.int w1)] [])) (fun t k => XS.istore X3.here hx rfl (hb hby d5_27) rfl (l' := #[.val (.ref r0), .val (.int (((3 : Int32) ^^^ w0) * (-1640531527 : Int32))), .val (.ref r1), .val (.int (3 : Int32)), .val (.int (1 : Int32)), .val (.int w1)]) rfl k) ?_
  refine own_by (B := T3.setTop (mkF m 30 #[.val (.ref r0), .val (.int (((3 : Int32) ^^^ w0) * (-1640531527 : Int32))), .val (.ref r1), .val (.int (3 : Int32)), .val (.int (1 : Int32)), .val (.int w1)] [(.int (((3 : Int32) ^^^ w0) * (-1640531527 : Int32)))])) (fun t k => XS.iloadN X3.here hx rfl (hb hby d5_29) rfl k) ?_
  refine own_by (B := T3.setTop (mkF m 32 #[.val (.ref r0), .val (.int (((3 : Int32) ^^^ w0) * (-1640531527 : Int32))), .val (.ref r1), .val (.int (3 : Int32)), .val (.int (1 : Int32)), .val (.int w1)] [(.int w1), (.int (((3 : Int32) ^^^ w0) * (-1640531527 : Int32)))])) (fun t k => XS.iload X3.here hx rfl (hb hby d5_30) rfl k) ?_
  refine own_by (B := T3.setTop (mkF m 33 #[.val (.ref r0), .val (.int (((3 : Int32) ^^^ w0) * (-1640531527 : Int32))), .val (.ref r1), .val (.int (3 : Int32)), .val (.int (1 : Int32)), .val (.int w1)] [(.int ((((3 : Int32) ^^^ w0) * (-1640531527 : Int32)) ^^^ w1))])) (fun t k => XS.ixor X3.here hx rfl (hb hby d5_32) rfl k) ?_
  refine own_by (B := T3.setTop (mkF m 35 #[.val (.ref r0), .val (.int (((3 : Int32) ^^^ w0) * (-1640531527 : Int32))), .val (.ref r1), .val (.int (3 : Int32)), .val (.int (1 : Int32)), .val (.int w1)] [(.int (-1640531527 : Int32)), (.int ((((3 : Int32) ^^^ w0) * (-1640531527 : Int32)) ^^^ w1))])) (fun t k => X3.ldcInt hx hown (mvT hZ (hw _ (List.mem_of_getElem? (i := 26) rfl))) (g := (mkF m 33 #[.val (.ref r0), .val (.int (((3 : Int32) ^^^ w0) * (-1640531527 : Int32))), .val (.ref r1), .val (.int (3 : Int32)), .val (.int (1 : Int32)), .val (.int w1)] [(.int ((((3 : Int32) ^^^ w0) * (-1640531527 : Int32)) ^^^ w1))])) rfl (hb hby d5_33) _ k) ?_
  refine own_by (B := T3.setTop (mkF m 36 #[.val (.ref r0), .val (.int (((3 : Int32) ^^^ w0) * (-1640531527 : Int32))), .val (.ref r1), .val (.int (3 : Int32)), .val (.int (1 : Int32)), .val (.int w1)] [(.int (((((3 : Int32) ^^^ w0) * (-1640531527 : Int32)) ^^^ w1) * (-1640531527 : Int32)))])) (fun t k => XS.imul X3.here hx rfl (hb hby d5_35) rfl k) ?_
  refine own_by (B := T3.setTop (mkF m 37 #[.val (.ref r0), .val (.int (((((3 : Int32) ^^^ w0) * (-1640531527 : Int32)) ^^^ w1) * (-1640531527 : Int32))), .val (.ref r1), .val (.int (3 : Int32)), .val (.int (1 : Int32)), .val (.int w1)] [])) (fun t k => XS.istoreN X3.here hx rfl (hb hby d5_36) rfl (l' := #[.val (.ref r0), .val (.int (((((3 : Int32) ^^^ w0) * (-1640531527 : Int32)) ^^^ w1) * (-1640531527 : Int32))), .val (.ref r1), .val (.int (3 : Int32)), .val (.int (1 : Int32)), .val (.int w1)]) rfl k) ?_
  refine own_by (B := T3.setTop (mkF m 40 #[.val (.ref r0), .val (.int (((((3 : Int32) ^^^ w0) * (-1640531527 : Int32)) ^^^ w1) * (-1640531527 : Int32))), .val (.ref r1), .val (.int (3 : Int32)), .val (.int (2 : Int32)), .val (.int w1)] [])) (fun t k => XS.iinc X3.here hx rfl (hb hby d5_37) rfl (l' := #[.val (.ref r0), .val (.int (((((3 : Int32) ^^^ w0) * (-1640531527 : Int32)) ^^^ w1) * (-1640531527 : Int32))), .val (.ref r1), .val (.int (3 : Int32)), .val (.int (2 : Int32)), .val (.int w1)]) rfl k) ?_
  refine own_by (B := T3.setTop (mkF m 17 #[.val (.ref r0), .val (.int (((((3 : Int32) ^^^ w0) * (-1640531527 : Int32)) ^^^ w1) * (-1640531527 : Int32))), .val (.ref r1), .val (.int (3 : Int32)), .val (.int (2 : Int32)), .val (.int w1)] [])) (fun t k => XS.goto X3.here hx rfl (pc0 := 40) (pc' := 17) rfl (hb hby d5_40) (by decide) (by decide) k) ?_
  refine own_by (B := T3.setTop (mkF m 19 #[.val (.ref r0), .val (.int (((((3 : Int32) ^^^ w0) * (-1640531527 : Int32)) ^^^ w1) * (-1640531527 : Int32))), .val (.ref r1), .val (.int (3 : Int32)), .val (.int (2 : Int32)), .val (.int w1)] [(.int (2 : Int32))])) (fun t k => XS.iload X3.here hx rfl (hb hby d5_17) rfl k) ?_
  refine own_by (B := T3.setTop (mkF m 20 #[.val (.ref r0), .val (.int (((((3 : Int32) ^^^ w0) * (-1640531527 : Int32)) ^^^ w1) * (-1640531527 : Int32))), .val (.ref r1), .val (.int (3 : Int32)), .val (.int (2 : Int32)), .val (.int w1)] [(.int (3 : Int32)), (.int (2 : Int32))])) (fun t k => XS.iloadN X3.here hx rfl (hb hby d5_19) rfl k) ?_
  refine own_by (B := T3.setTop (mkF m 23 #[.val (.ref r0), .val (.int (((((3 : Int32) ^^^ w0) * (-1640531527 : Int32)) ^^^ w1) * (-1640531527 : Int32))), .val (.ref r1), .val (.int (3 : Int32)), .val (.int (2 : Int32)), .val (.int w1)] [])) (fun t k => XS.icmpNo X3.here hx rfl (hb hby d5_20) rfl (tlt (by decide)).2.1 k) ?_
  refine own_by (B := T3.setTop (mkF m 24 #[.val (.ref r0), .val (.int (((((3 : Int32) ^^^ w0) * (-1640531527 : Int32)) ^^^ w1) * (-1640531527 : Int32))), .val (.ref r1), .val (.int (3 : Int32)), .val (.int (2 : Int32)), .val (.int w1)] [(.ref r1)])) (fun t k => XS.aloadN X3.here hx rfl (hb hby d5_23) rfl rfl k) ?_
  refine own_by (B := T3.setTop (mkF m 26 #[.val (.ref r0), .val (.int (((((3 : Int32) ^^^ w0) * (-1640531527 : Int32)) ^^^ w1) * (-1640531527 : Int32))), .val (.ref r1), .val (.int (3 : Int32)), .val (.int (2 : Int32)), .val (.int w1)] [(.int (2 : Int32)), (.ref r1)])) (fun t k => XS.iload X3.here hx rfl (hb hby d5_24) rfl k) ?_
  obtain ⟨cl7, Ar7, hin7, hat7⟩ := V_r1.at (j := (2 : Int32)) ⟨by decide, by decide⟩
  have hat7 := hat7.trans (congrArg some (show _ = (.int w2) from hf2))
  refine own_by (B := T3.setTop (mkF m 27 #[.val (.ref r0), .val (.int (((((3 : Int32) ^^^ w0) * (-1640531527 : Int32)) ^^^ w1) * (-1640531527 : Int32))), .val (.ref r1), .val (.int (3 : Int32)), .val (.int (2 : Int32)), .val (.int w1)] [(.int w2)])) (fun t k => X3.iaload hx (j := (2 : Int32)) (v := (.int w2)) (by rw [e3]; exact Ar7.1) (State.isArrayOf_alike hZ.alike Ar7.2.1) Ar7.2.2 hin7 hat7 (g := (mkF m 26 #[.val (.ref r0), .val (.int (((((3 : Int32) ^^^ w0) * (-1640531527 : Int32)) ^^^ w1) * (-1640531527 : Int32))), .val (.ref r1), .val (.int (3 : Int32)), .val (.int (2 : Int32)), .val (.int w1)] [(.int (2 : Int32)), (.ref r1)])) rfl rfl (hb hby d5_26) _ k) ?_
  refine own_by (B := T3.setTop (mkF m 29 #[.val (.ref r0), .val (.int (((((3 : Int32) ^^^ w0) * (-1640531527 : Int32)) ^^^ w1) * (-1640531527 : Int32))), .val (.ref r1), .val (.int (3 : Int32)), .val (.int (2 : Int32)), .val (.int w2)] [])) (fun t k => XS.istore X3.here hx rfl (hb hby d5_27) rfl (l' := #[.val (.ref r0), .val (.int (((((3 : Int32) ^^^ w0) * (-1640531527 : Int32)) ^^^ w1) * (-1640531527 : Int32))), .val (.ref r1), .val (.int (3 : Int32)), .val (.int (2 : Int32)), .val (.int w2)]) rfl k) ?_
  refine own_by (B := T3.setTop (mkF m 30 #[.val (.ref r0), .val (.int (((((3 : Int32) ^^^ w0) * (-1640531527 : Int32)) ^^^ w1) * (-1640531527 : Int32))), .val (.ref r1), .val (.int (3 : Int32)), .val (.int (2 : Int32)), .val (.int w2)] [(.int (((((3 : Int32) ^^^ w0) * (-1640531527 : Int32)) ^^^ w1) * (-1640531527 : Int32)))])) (fun t k => XS.iloadN X3.here hx rfl (hb hby d5_29) rfl k) ?_
  refine own_by (B := T3.setTop (mkF m 32 #[.val (.ref r0), .val (.int (((((3 : Int32) ^^^ w0) * (-1640531527 : Int32)) ^^^ w1) * (-1640531527 : Int32))), .val (.ref r1), .val (.int (3 : Int32)), .val (.int (2 : Int32)), .val (.int w2)] [(.int w2), (.int (((((3 : Int32) ^^^ w0) * (-1640531527 : Int32)) ^^^ w1) * (-1640531527 : Int32)))])) (fun t k => XS.iload X3.here hx rfl (hb hby d5_30) rfl k) ?_
  refine own_by (B := T3.setTop (mkF m 33 #[.val (.ref r0), .val (.int (((((3 : Int32) ^^^ w0) * (-1640531527 : Int32)) ^^^ w1) * (-1640531527 : Int32))), .val (.ref r1), .val (.int (3 : Int32)), .val (.int (2 : Int32)), .val (.int w2)] [(.int ((((((3 : Int32) ^^^ w0) * (-1640531527 : Int32)) ^^^ w1) * (-1640531527 : Int32)) ^^^ w2))])) (fun t k => XS.ixor X3.here hx rfl (hb hby d5_32) rfl k) ?_
  refine own_by (B := T3.setTop (mkF m 35 #[.val (.ref r0), .val (.int (((((3 : Int32) ^^^ w0) * (-1640531527 : Int32)) ^^^ w1) * (-1640531527 : Int32))), .val (.ref r1), .val (.int (3 : Int32)), .val (.int (2 : Int32)), .val (.int w2)] [(.int (-1640531527 : Int32)), (.int ((((((3 : Int32) ^^^ w0) * (-1640531527 : Int32)) ^^^ w1) * (-1640531527 : Int32)) ^^^ w2))])) (fun t k => X3.ldcInt hx hown (mvT hZ (hw _ (List.mem_of_getElem? (i := 26) rfl))) (g := (mkF m 33 #[.val (.ref r0), .val (.int (((((3 : Int32) ^^^ w0) * (-1640531527 : Int32)) ^^^ w1) * (-1640531527 : Int32))), .val (.ref r1), .val (.int (3 : Int32)), .val (.int (2 : Int32)), .val (.int w2)] [(.int ((((((3 : Int32) ^^^ w0) * (-1640531527 : Int32)) ^^^ w1) * (-1640531527 : Int32)) ^^^ w2))])) rfl (hb hby d5_33) _ k) ?_
  refine own_by (B := T3.setTop (mkF m 36 #[.val (.ref r0), .val (.int (((((3 : Int32) ^^^ w0) * (-1640531527 : Int32)) ^^^ w1) * (-1640531527 : Int32))), .val (.ref r1), .val (.int (3 : Int32)), .val (.int (2 : Int32)), .val (.int w2)] [(.int (((((((3 : Int32) ^^^ w0) * (-1640531527 : Int32)) ^^^ w1) * (-1640531527 : Int32)) ^^^ w2) * (-1640531527 : Int32)))])) (fun t k => XS.imul X3.here hx rfl (hb hby d5_35) rfl k) ?_
  refine own_by (B := T3.setTop (mkF m 37 #[.val (.ref r0), .val (.int (((((((3 : Int32) ^^^ w0) * (-1640531527 : Int32)) ^^^ w1) * (-1640531527 : Int32)) ^^^ w2) * (-1640531527 : Int32))), .val (.ref r1), .val (.int (3 : Int32)), .val (.int (2 : Int32)), .val (.int w2)] [])) (fun t k => XS.istoreN X3.here hx rfl (hb hby d5_36) rfl (l' := #[.val (.ref r0), .val (.int (((((((3 : Int32) ^^^ w0) * (-1640531527 : Int32)) ^^^ w1) * (-1640531527 : Int32)) ^^^ w2) * (-1640531527 : Int32))), .val (.ref r1), .val (.int (3 : Int32)), .val (.int (2 : Int32)), .val (.int w2)]) rfl k) ?_
  refine own_by (B := T3.setTop (mkF m 40 #[.val (.ref r0), .val (.int (((((((3 : Int32) ^^^ w0) * (-1640531527 : Int32)) ^^^ w1) * (-1640531527 : Int32)) ^^^ w2) * (-1640531527 : Int32))), .val (.ref r1), .val (.int (3 : Int32)), .val (.int (3 : Int32)), .val (.int w2)] [])) (fun t k => XS.iinc X3.here hx rfl (hb hby d5_37) rfl (l' := #[.val (.ref r0), .val (.int (((((((3 : Int32) ^^^ w0) * (-1640531527 : Int32)) ^^^ w1) * (-1640531527 : Int32)) ^^^ w2) * (-1640531527 : Int32))), .val (.ref r1), .val (.int (3 : Int32)), .val (.int (3 : Int32)), .val (.int w2)]) rfl k) ?_
  refine own_by (B := T3.setTop (mkF m 17 #[.val (.ref r0), .val (.int (((((((3 : Int32) ^^^ w0) * (-1640531527 : Int32)) ^^^ w1) * (-1640531527 : Int32)) ^^^ w2) * (-1640531527 : Int32))), .val (.ref r1), .val (.int (3 : Int32)), .val (.int (3 : Int32)), .val (.int w2)] [])) (fun t k => XS.goto X3.here hx rfl (pc0 := 40) (pc' := 17) rfl (hb hby d5_40) (by decide) (by decide) k) ?_
  refine own_by (B := T3.setTop (mkF m 19 #[.val (.ref r0), .val (.int (((((((3 : Int32) ^^^ w0) * (-1640531527 : Int32)) ^^^ w1) * (-1640531527 : Int32)) ^^^ w2) * (-1640531527 : Int32))), .val (.ref r1), .val (.int (3 : Int32)), .val (.int (3 : Int32)), .val (.int w2)] [(.int (3 : Int32))])) (fun t k => XS.iload X3.here hx rfl (hb hby d5_17) rfl k) ?_
  refine own_by (B := T3.setTop (mkF m 20 #[.val (.ref r0), .val (.int (((((((3 : Int32) ^^^ w0) * (-1640531527 : Int32)) ^^^ w1) * (-1640531527 : Int32)) ^^^ w2) * (-1640531527 : Int32))), .val (.ref r1), .val (.int (3 : Int32)), .val (.int (3 : Int32)), .val (.int w2)] [(.int (3 : Int32)), (.int (3 : Int32))])) (fun t k => XS.iloadN X3.here hx rfl (hb hby d5_19) rfl k) ?_
  refine own_by (B := T3.setTop (mkF m 43 #[.val (.ref r0), .val (.int (((((((3 : Int32) ^^^ w0) * (-1640531527 : Int32)) ^^^ w1) * (-1640531527 : Int32)) ^^^ w2) * (-1640531527 : Int32))), .val (.ref r1), .val (.int (3 : Int32)), .val (.int (3 : Int32)), .val (.int w2)] [])) (fun t k => XS.icmpYes X3.here hx rfl (pc0 := 20) (pc' := 43) rfl (hb hby d5_20) rfl (flt (by decide)).2.1 (by decide) (by decide) k) ?_
  refine own_by (B := T3.setTop (mkF m 44 #[.val (.ref r0), .val (.int (((((((3 : Int32) ^^^ w0) * (-1640531527 : Int32)) ^^^ w1) * (-1640531527 : Int32)) ^^^ w2) * (-1640531527 : Int32))), .val (.ref r1), .val (.int (3 : Int32)), .val (.int (3 : Int32)), .val (.int w2)] [(.int (((((((3 : Int32) ^^^ w0) * (-1640531527 : Int32)) ^^^ w1) * (-1640531527 : Int32)) ^^^ w2) * (-1640531527 : Int32)))])) (fun t k => XS.iloadN X3.here hx rfl (hb hby d5_43) rfl k) ?_
  refine own_by (B := T3.setTop (mkF m 45 #[.val (.ref r0), .val (.int (((((((3 : Int32) ^^^ w0) * (-1640531527 : Int32)) ^^^ w1) * (-1640531527 : Int32)) ^^^ w2) * (-1640531527 : Int32))), .val (.ref r1), .val (.int (3 : Int32)), .val (.int (3 : Int32)), .val (.int w2)] [(.int (((((((3 : Int32) ^^^ w0) * (-1640531527 : Int32)) ^^^ w1) * (-1640531527 : Int32)) ^^^ w2) * (-1640531527 : Int32))), (.int (((((((3 : Int32) ^^^ w0) * (-1640531527 : Int32)) ^^^ w1) * (-1640531527 : Int32)) ^^^ w2) * (-1640531527 : Int32)))])) (fun t k => XS.iloadN X3.here hx rfl (hb hby d5_44) rfl k) ?_
  refine own_by (B := T3.setTop (mkF m 47 #[.val (.ref r0), .val (.int (((((((3 : Int32) ^^^ w0) * (-1640531527 : Int32)) ^^^ w1) * (-1640531527 : Int32)) ^^^ w2) * (-1640531527 : Int32))), .val (.ref r1), .val (.int (3 : Int32)), .val (.int (3 : Int32)), .val (.int w2)] [(.int (16 : Int32)), (.int (((((((3 : Int32) ^^^ w0) * (-1640531527 : Int32)) ^^^ w1) * (-1640531527 : Int32)) ^^^ w2) * (-1640531527 : Int32))), (.int (((((((3 : Int32) ^^^ w0) * (-1640531527 : Int32)) ^^^ w1) * (-1640531527 : Int32)) ^^^ w2) * (-1640531527 : Int32)))])) (fun t k => XS.bipush X3.here hx rfl (hb hby d5_45) k) ?_
  refine own_by (B := T3.setTop (mkF m 48 #[.val (.ref r0), .val (.int (((((((3 : Int32) ^^^ w0) * (-1640531527 : Int32)) ^^^ w1) * (-1640531527 : Int32)) ^^^ w2) * (-1640531527 : Int32))), .val (.ref r1), .val (.int (3 : Int32)), .val (.int (3 : Int32)), .val (.int w2)] [(.int (((((((((3 : Int32) ^^^ w0) * (-1640531527 : Int32)) ^^^ w1) * (-1640531527 : Int32)) ^^^ w2) * (-1640531527 : Int32)).toUInt32 >>> ((16 : Int32) &&& 31).toUInt32).toInt32)), (.int (((((((3 : Int32) ^^^ w0) * (-1640531527 : Int32)) ^^^ w1) * (-1640531527 : Int32)) ^^^ w2) * (-1640531527 : Int32)))])) (fun t k => XS.iushr X3.here hx rfl (hb hby d5_47) rfl k) ?_
  refine own_by (B := T3.setTop (mkF m 49 #[.val (.ref r0), .val (.int (((((((3 : Int32) ^^^ w0) * (-1640531527 : Int32)) ^^^ w1) * (-1640531527 : Int32)) ^^^ w2) * (-1640531527 : Int32))), .val (.ref r1), .val (.int (3 : Int32)), .val (.int (3 : Int32)), .val (.int w2)] [(.int ((((((((3 : Int32) ^^^ w0) * (-1640531527 : Int32)) ^^^ w1) * (-1640531527 : Int32)) ^^^ w2) * (-1640531527 : Int32)) ^^^ (((((((((3 : Int32) ^^^ w0) * (-1640531527 : Int32)) ^^^ w1) * (-1640531527 : Int32)) ^^^ w2) * (-1640531527 : Int32)).toUInt32 >>> ((16 : Int32) &&& 31).toUInt32).toInt32)))])) (fun t k => XS.ixor X3.here hx rfl (hb hby d5_48) rfl k) ?_
  exact own_end X3 (v := some (.int ((((((((3 : Int32) ^^^ w0) * (-1640531527 : Int32)) ^^^ w1) * (-1640531527 : Int32)) ^^^ w2) * (-1640531527 : Int32)) ^^^ (((((((((3 : Int32) ^^^ w0) * (-1640531527 : Int32)) ^^^ w1) * (-1640531527 : Int32)) ^^^ w2) * (-1640531527 : Int32)).toUInt32 >>> ((16 : Int32) &&& 31).toUInt32).toInt32)))) (fun h => by rw [Bd.returns] at h; cases h) (BodyLoose.notSynchronized Bd) (Q := (Q_rmH3 Z r0 r1 f w0 w1 w2 h0 n0)) (fun fs hr => retI X3 hx Bd.returns (hb hby d5_49) hr) (show (Q_rmH3 Z r0 r1 f w0 w1 w2 h0 n0) _ T3.heap _ from (by rw [e3]; exact ⟨rfl, Nf, rfl⟩)) (by decide) (by decide)
theorem own_pd1 : parseMethodDescriptor "(IIII)[I" = some ⟨[.int, .int, .int, .int], some (.array .int)⟩ := by decide +kernel
theorem own_pd2 : parseMethodDescriptor "([I)V" = some ⟨[(.array .int)], none⟩ := by decide +kernel
theorem own_pd3 : parseMethodDescriptor "()I" = some ⟨[], some .int⟩ := by decide +kernel
theorem ef_rm0 (m : MethodId) (x0 : Int32) (x1 : Int32) (x2 : Int32) (x3 : Int32) (x4 : Int32) : entryFrame m #[(.int x0), (.int x1), (.int x2), (.int x3), (.int x4)] maxLocals = mkF m 0 #[.val (.int x0), .val (.int x1), .val (.int x2), .val (.int x3), .val (.int x4), .unset, .unset, .unset, .unset, .unset, .unset, .unset, .unset, .unset] [] := by first | (simp [entryFrame, mkF, argsToLocals, Value.category, maxLocals]; done) | rfl
def Q_rm0 (Z : State) (i0 : Int32) (i1 : Int32) (i2 : Int32) (i3 : Int32) (i4 : Int32) (h0 : Heap) (n0 : Nat) (v : Option Value) (h : Heap) (L : List Loc) : Prop := v = some (.int 1) ∧ Fr n0 L
set_option maxRecDepth 65536 in
set_option maxHeartbeats 40000000 in
theorem rm0 (l : Launch) (Z : State) (a0 : Array Value) (hw : ∀ d ∈ tables_1, d.before a0 Z = true) (ws : List Jvm.Cond) (i0 : Int32) (i1 : Int32) (i2 : Int32) (i3 : Int32) (i4 : Int32) (h0 : Heap) (n0 : Nat) (Z0 : n0 ≤ h0.size)  :
    MetFree l x (head1 (Jvm.Cond.code x code maxLocals ret :: ws) room_1) (fun a U => a = #[(.int i0), (.int i1), (.int i2), (.int i3), (.int i4)] ∧ Z.Warmed39 U.vm ∧ U.heap = h0) (fun _ _ _ _ _ => True) (fun _ U o U' => ∃ v L, o = .returned v ∧ Q_rm0 Z i0 i1 i2 i3 i4 h0 n0 v U'.heap L ∧ FrameEnd U o U' L room_1.cells room_1.slots) := by
  refine MetFree.of_bodySF (plainFor_of_name own_pn2) hisR ?_
  intro p e s m args below meth c s₁ Bd hml0 hP hK
  obtain ⟨rfl, hZ, hh⟩ := hP
  have hx := Bd.exec
  have hby := Bd.bytes
  have hml : c.maxLocals = 14 := hml0
  have hown : s.vm.findClass "com/example/processes_as_trees/processesastrees/StateTupleHashCodePinLaw" = some m.cls := findClass_of_methodNamed Bd.named
  have hnm := (name_of_methodNamed Bd.named Bd.method).1
  have X0 : Stand p l e room_1 s m #[(.int i0), (.int i1), (.int i2), (.int i3), (.int i4)] below meth c s₁ [] 0 0 := Stand.of_body Bd
  have e0 : s₁.heap = h0 := by rw [← hh, Bd.state]; rfl
  show own_Go p e below (s₁.setTop (entryFrame m #[(.int i0), (.int i1), (.int i2), (.int i3), (.int i4)] maxLocals)) (fun t o => ∃ v L, o = .returned v ∧ Q_rm0 Z i0 i1 i2 i3 i4 h0 n0 v t.heap L ∧ FrameEnd s o t L room_1.cells room_1.slots)
  refine own_by (B := s₁.setTop (mkF m 0 #[.val (.int i0), .val (.int i1), .val (.int i2), .val (.int i3), .val (.int i4), .unset, .unset, .unset, .unset, .unset, .unset, .unset, .unset, .unset] [])) (fun t k => castTop (ef_rm0 m i0 i1 i2 i3 i4) k) ?_
  have Nf := Fr.nil n0
  have Zs := Z0
  refine own_by (B := s₁.setTop (mkF m 1 #[.val (.int i0), .val (.int i1), .val (.int i2), .val (.int i3), .val (.int i4), .unset, .unset, .unset, .unset, .unset, .unset, .unset, .unset, .unset] [(.int i0)])) (fun t k => XS.iloadN X0.here hx rfl (hb hby at_0) rfl k) ?_
  refine own_by (B := s₁.setTop (mkF m 2 #[.val (.int i0), .val (.int i1), .val (.int i2), .val (.int i3), .val (.int i4), .unset, .unset, .unset, .unset, .unset, .unset, .unset, .unset, .unset] [(.int (3 : Int32)), (.int i0)])) (fun t k => XS.iconst X0.here hx rfl (hb hby at_1) k) ?_
  refine own_by (B := s₁.setTop (mkF m 3 #[.val (.int i0), .val (.int i1), .val (.int i2), .val (.int i3), .val (.int i4), .unset, .unset, .unset, .unset, .unset, .unset, .unset, .unset, .unset] [(.int (i0 &&& (3 : Int32)))])) (fun t k => XS.iand X0.here hx rfl (hb hby at_2) rfl k) ?_
  refine own_by (B := s₁.setTop (mkF m 5 #[.val (.int i0), .val (.int i1), .val (.int i2), .val (.int i3), .val (.int i4), .val (.int (i0 &&& (3 : Int32))), .unset, .unset, .unset, .unset, .unset, .unset, .unset, .unset] [])) (fun t k => XS.istore X0.here hx rfl (hb hby at_3) rfl (l' := #[.val (.int i0), .val (.int i1), .val (.int i2), .val (.int i3), .val (.int i4), .val (.int (i0 &&& (3 : Int32))), .unset, .unset, .unset, .unset, .unset, .unset, .unset, .unset]) rfl k) ?_
  rcases own_and3 i0 with hq | hq | hq | hq
  · rw [hq]
    refine own_by (B := s₁.setTop (mkF m 7 #[.val (.int i0), .val (.int i1), .val (.int i2), .val (.int i3), .val (.int i4), .val (.int (0 : Int32)), .unset, .unset, .unset, .unset, .unset, .unset, .unset, .unset] [(.int (0 : Int32))])) (fun t k => XS.iload X0.here hx rfl (hb hby at_5) rfl k) ?_
    refine own_by (B := s₁.setTop (mkF m 8 #[.val (.int i0), .val (.int i1), .val (.int i2), .val (.int i3), .val (.int i4), .val (.int (0 : Int32)), .unset, .unset, .unset, .unset, .unset, .unset, .unset, .unset] [(.int i1), (.int (0 : Int32))])) (fun t k => XS.iloadN X0.here hx rfl (hb hby at_7) rfl k) ?_
    refine own_by (B := s₁.setTop (mkF m 9 #[.val (.int i0), .val (.int i1), .val (.int i2), .val (.int i3), .val (.int i4), .val (.int (0 : Int32)), .unset, .unset, .unset, .unset, .unset, .unset, .unset, .unset] [(.int i2), (.int i1), (.int (0 : Int32))])) (fun t k => XS.iloadN X0.here hx rfl (hb hby at_8) rfl k) ?_
    refine own_by (B := s₁.setTop (mkF m 10 #[.val (.int i0), .val (.int i1), .val (.int i2), .val (.int i3), .val (.int i4), .val (.int (0 : Int32)), .unset, .unset, .unset, .unset, .unset, .unset, .unset, .unset] [(.int i3), (.int i2), (.int i1), (.int (0 : Int32))])) (fun t k => XS.iloadN X0.here hx rfl (hb hby at_9) rfl k) ?_
    obtain ⟨_, _, ⟨T1, L1, k1, n1⟩, -, X1, ⟨Lc1, hQ1, l1, y1, z1⟩, st1⟩ := Jvm.LawKit.callS X0 hx (y := (⟨"com/example/processes_as_trees/processesastrees/StateTupleHashCodePinLaw", "make", "(IIII)[I"⟩ : MethodName)) hown (mvT hZ (hw _ (List.mem_of_getElem? (i := 0) rfl))) (mvT hZ (hw _ (List.mem_of_getElem? (i := 1) rfl))) (mvT hZ (hw _ (List.mem_of_getElem? (i := 2) rfl))) (mvT hZ (hw _ (List.mem_of_getElem? (i := 3) rfl))) (by decide) (backOf (W := 0) (rmM0 l Z a0 hw [] i1 i2 i3 h0 n0 Zs) hZ (hw _ (List.mem_of_getElem? (i := 3) rfl)) (hw _ (List.mem_of_getElem? (i := 2) rfl)) (by decide) (by decide)) (g := (mkF m 10 #[.val (.int i0), .val (.int i1), .val (.int i2), .val (.int i3), .val (.int i4), .val (.int (0 : Int32)), .unset, .unset, .unset, .unset, .unset, .unset, .unset, .unset] [(.int i3), (.int i2), (.int i1), (.int (0 : Int32))])) rfl (by rw [hml]; rfl) (argsL := [(.int (0 : Int32)), (.int i1), (.int i2), (.int i3)]) (rest := []) (lenOf own_pd1 rfl) rfl (by show 2 * 0 + _ ≤ _; exact Nat.le_of_eq rfl) (hb hby at_10) (fun _ _ => ⟨rfl, e0, (by decide : 0 + 1 ≤ _), (by decide : 0 + 0 ≤ _)⟩)
    dsimp only [Pt.U, Pt.locs, Pt.cells, Pt.slots] at X1 l1 y1 z1 st1 hQ1
    subst l1 y1 z1
    obtain ⟨rfl, Nq1, Kc1, f1, Vc1⟩ := hQ1
    have Nf := Fr.app Nf Nq1
    obtain ⟨b1, gq1⟩ : ∃ z, z = h0.size := ⟨_, rfl⟩
    rw [← gq1] at Vc1 st1
    have g_b1 : n0 ≤ b1 := Nat.le_trans Zs (Nat.le_of_eq gq1.symm)
    have Zs := Nat.le_trans Zs Kc1.1
    have V_b1 := Vc1
    refine own_by (B := T1.setTop (mkF m 13 #[.val (.int i0), .val (.int i1), .val (.int i2), .val (.int i3), .val (.int i4), .val (.int (0 : Int32)), .unset, .unset, .unset, .unset, .unset, .unset, .unset, .unset] [(.ref b1)])) st1 ?_
    refine own_by (B := T1.setTop (mkF m 15 #[.val (.int i0), .val (.int i1), .val (.int i2), .val (.int i3), .val (.int i4), .val (.int (0 : Int32)), .val (.ref b1), .unset, .unset, .unset, .unset, .unset, .unset, .unset] [])) (fun t k => XS.astore X1.here hx rfl (hb hby at_13) rfl rfl (l' := #[.val (.int i0), .val (.int i1), .val (.int i2), .val (.int i3), .val (.int i4), .val (.int (0 : Int32)), .val (.ref b1), .unset, .unset, .unset, .unset, .unset, .unset, .unset]) rfl k) ?_
    refine own_by (B := T1.setTop (mkF m 17 #[.val (.int i0), .val (.int i1), .val (.int i2), .val (.int i3), .val (.int i4), .val (.int (0 : Int32)), .val (.ref b1), .unset, .unset, .unset, .unset, .unset, .unset, .unset] [(.int (0 : Int32))])) (fun t k => XS.iload X1.here hx rfl (hb hby at_15) rfl k) ?_
    refine own_by (B := T1.setTop (mkF m 18 #[.val (.int i0), .val (.int i1), .val (.int i2), .val (.int i3), .val (.int i4), .val (.int (0 : Int32)), .val (.ref b1), .unset, .unset, .unset, .unset, .unset, .unset, .unset] [(.int i1), (.int (0 : Int32))])) (fun t k => XS.iloadN X1.here hx rfl (hb hby at_17) rfl k) ?_
    refine own_by (B := T1.setTop (mkF m 19 #[.val (.int i0), .val (.int i1), .val (.int i2), .val (.int i3), .val (.int i4), .val (.int (0 : Int32)), .val (.ref b1), .unset, .unset, .unset, .unset, .unset, .unset, .unset] [(.int i2), (.int i1), (.int (0 : Int32))])) (fun t k => XS.iloadN X1.here hx rfl (hb hby at_18) rfl k) ?_
    refine own_by (B := T1.setTop (mkF m 20 #[.val (.int i0), .val (.int i1), .val (.int i2), .val (.int i3), .val (.int i4), .val (.int (0 : Int32)), .val (.ref b1), .unset, .unset, .unset, .unset, .unset, .unset, .unset] [(.int i3), (.int i2), (.int i1), (.int (0 : Int32))])) (fun t k => XS.iloadN X1.here hx rfl (hb hby at_19) rfl k) ?_
    obtain ⟨_, _, ⟨T2, L2, k2, n2⟩, -, X2, ⟨Lc2, hQ2, l2, y2, z2⟩, st2⟩ := Jvm.LawKit.callS X1 hx (y := (⟨"com/example/processes_as_trees/processesastrees/StateTupleHashCodePinLaw", "make", "(IIII)[I"⟩ : MethodName)) hown (mvT hZ (hw _ (List.mem_of_getElem? (i := 0) rfl))) (mvT hZ (hw _ (List.mem_of_getElem? (i := 1) rfl))) (mvT hZ (hw _ (List.mem_of_getElem? (i := 2) rfl))) (mvT hZ (hw _ (List.mem_of_getElem? (i := 3) rfl))) (by decide) (backOf (W := 0) (rmM0 l Z a0 hw [] i1 i2 i3 T1.heap n0 Zs) hZ (hw _ (List.mem_of_getElem? (i := 3) rfl)) (hw _ (List.mem_of_getElem? (i := 2) rfl)) (by decide) (by decide)) (g := (mkF m 20 #[.val (.int i0), .val (.int i1), .val (.int i2), .val (.int i3), .val (.int i4), .val (.int (0 : Int32)), .val (.ref b1), .unset, .unset, .unset, .unset, .unset, .unset, .unset] [(.int i3), (.int i2), (.int i1), (.int (0 : Int32))])) rfl (by rw [hml]; rfl) (argsL := [(.int (0 : Int32)), (.int i1), (.int i2), (.int i3)]) (rest := []) (lenOf own_pd1 rfl) rfl (by show 2 * 0 + _ ≤ _; exact Nat.le_of_eq rfl) (hb hby at_20) (fun _ _ => ⟨rfl, rfl, (by decide : 1 + 1 ≤ _), (by decide : 0 + 0 ≤ _)⟩)
    dsimp only [Pt.U, Pt.locs, Pt.cells, Pt.slots] at X2 l2 y2 z2 st2 hQ2
    subst l2 y2 z2
    obtain ⟨rfl, Nq2, Kc2, f2, Vc2⟩ := hQ2
    have Nf := Fr.app Nf Nq2
    obtain ⟨b2, gq2⟩ : ∃ z, z = T1.heap.size := ⟨_, rfl⟩
    rw [← gq2] at Vc2 st2
    have ne_b1_b2 : b1 ≠ b2 := Nat.ne_of_lt (Nat.lt_of_lt_of_le V_b1.lt (Nat.le_of_eq gq2.symm))
    have g_b2 : n0 ≤ b2 := Nat.le_trans Zs (Nat.le_of_eq gq2.symm)
    have V_b1 := V_b1.keep Kc2 nin0
    have Zs := Nat.le_trans Zs Kc2.1
    have V_b2 := Vc2
    refine own_by (B := T2.setTop (mkF m 23 #[.val (.int i0), .val (.int i1), .val (.int i2), .val (.int i3), .val (.int i4), .val (.int (0 : Int32)), .val (.ref b1), .unset, .unset, .unset, .unset, .unset, .unset, .unset] [(.ref b2)])) st2 ?_
    refine own_by (B := T2.setTop (mkF m 25 #[.val (.int i0), .val (.int i1), .val (.int i2), .val (.int i3), .val (.int i4), .val (.int (0 : Int32)), .val (.ref b1), .val (.ref b2), .unset, .unset, .unset, .unset, .unset, .unset] [])) (fun t k => XS.astore X2.here hx rfl (hb hby at_23) rfl rfl (l' := #[.val (.int i0), .val (.int i1), .val (.int i2), .val (.int i3), .val (.int i4), .val (.int (0 : Int32)), .val (.ref b1), .val (.ref b2), .unset, .unset, .unset, .unset, .unset, .unset]) rfl k) ?_
    refine own_by (B := T2.setTop (mkF m 27 #[.val (.int i0), .val (.int i1), .val (.int i2), .val (.int i3), .val (.int i4), .val (.int (0 : Int32)), .val (.ref b1), .val (.ref b2), .unset, .unset, .unset, .unset, .unset, .unset] [(.int (0 : Int32))])) (fun t k => XS.iload X2.here hx rfl (hb hby at_25) rfl k) ?_
    refine own_by (B := T2.setTop (mkF m 30 #[.val (.int i0), .val (.int i1), .val (.int i2), .val (.int i3), .val (.int i4), .val (.int (0 : Int32)), .val (.ref b1), .val (.ref b2), .unset, .unset, .unset, .unset, .unset, .unset] [])) (fun t k => XS.ifNo X2.here hx rfl (hb hby at_27) rfl ((if0 _ _).trans (teq (by decide)).2) k) ?_
    refine own_by (B := T2.setTop (mkF m 31 #[.val (.int i0), .val (.int i1), .val (.int i2), .val (.int i3), .val (.int i4), .val (.int (0 : Int32)), .val (.ref b1), .val (.ref b2), .unset, .unset, .unset, .unset, .unset, .unset] [(.int (0 : Int32))])) (fun t k => XS.iconst X2.here hx rfl (hb hby at_30) k) ?_
    refine own_by (B := T2.setTop (mkF m 32 #[.val (.int i0), .val (.int i1), .val (.int i2), .val (.int i3), .val (.int i4), .val (.int (0 : Int32)), .val (.ref b1), .val (.ref b2), .unset, .unset, .unset, .unset, .unset, .unset] [(.int i1), (.int (0 : Int32))])) (fun t k => XS.iloadN X2.here hx rfl (hb hby at_31) rfl k) ?_
    refine own_by (B := T2.setTop (mkF m 33 #[.val (.int i0), .val (.int i1), .val (.int i2), .val (.int i3), .val (.int i4), .val (.int (0 : Int32)), .val (.ref b1), .val (.ref b2), .unset, .unset, .unset, .unset, .unset, .unset] [(.int i2), (.int i1), (.int (0 : Int32))])) (fun t k => XS.iloadN X2.here hx rfl (hb hby at_32) rfl k) ?_
    refine own_by (B := T2.setTop (mkF m 34 #[.val (.int i0), .val (.int i1), .val (.int i2), .val (.int i3), .val (.int i4), .val (.int (0 : Int32)), .val (.ref b1), .val (.ref b2), .unset, .unset, .unset, .unset, .unset, .unset] [(.int i3), (.int i2), (.int i1), (.int (0 : Int32))])) (fun t k => XS.iloadN X2.here hx rfl (hb hby at_33) rfl k) ?_
    obtain ⟨_, _, ⟨T3, L3, k3, n3⟩, -, X3, ⟨Lc3, hQ3, l3, y3, z3⟩, st3⟩ := Jvm.LawKit.callS X2 hx (y := (⟨"com/example/processes_as_trees/processesastrees/StateTupleHashCodePinLaw", "make", "(IIII)[I"⟩ : MethodName)) hown (mvT hZ (hw _ (List.mem_of_getElem? (i := 0) rfl))) (mvT hZ (hw _ (List.mem_of_getElem? (i := 1) rfl))) (mvT hZ (hw _ (List.mem_of_getElem? (i := 2) rfl))) (mvT hZ (hw _ (List.mem_of_getElem? (i := 3) rfl))) (by decide) (backOf (W := 0) (rmM0 l Z a0 hw [] i1 i2 i3 T2.heap n0 Zs) hZ (hw _ (List.mem_of_getElem? (i := 3) rfl)) (hw _ (List.mem_of_getElem? (i := 2) rfl)) (by decide) (by decide)) (g := (mkF m 34 #[.val (.int i0), .val (.int i1), .val (.int i2), .val (.int i3), .val (.int i4), .val (.int (0 : Int32)), .val (.ref b1), .val (.ref b2), .unset, .unset, .unset, .unset, .unset, .unset] [(.int i3), (.int i2), (.int i1), (.int (0 : Int32))])) rfl (by rw [hml]; rfl) (argsL := [(.int (0 : Int32)), (.int i1), (.int i2), (.int i3)]) (rest := []) (lenOf own_pd1 rfl) rfl (by show 2 * 0 + _ ≤ _; exact Nat.le_of_eq rfl) (hb hby at_34) (fun _ _ => ⟨rfl, rfl, (by decide : 2 + 1 ≤ _), (by decide : 0 + 0 ≤ _)⟩)
    dsimp only [Pt.U, Pt.locs, Pt.cells, Pt.slots] at X3 l3 y3 z3 st3 hQ3
    subst l3 y3 z3
    obtain ⟨rfl, Nq3, Kc3, f3, Vc3⟩ := hQ3
    have Nf := Fr.app Nf Nq3
    obtain ⟨b3, gq3⟩ : ∃ z, z = T2.heap.size := ⟨_, rfl⟩
    rw [← gq3] at Vc3 st3
    have ne_b1_b3 : b1 ≠ b3 := Nat.ne_of_lt (Nat.lt_of_lt_of_le V_b1.lt (Nat.le_of_eq gq3.symm))
    have ne_b2_b3 : b2 ≠ b3 := Nat.ne_of_lt (Nat.lt_of_lt_of_le V_b2.lt (Nat.le_of_eq gq3.symm))
    have g_b3 : n0 ≤ b3 := Nat.le_trans Zs (Nat.le_of_eq gq3.symm)
    have V_b1 := V_b1.keep Kc3 nin0
    have V_b2 := V_b2.keep Kc3 nin0
    have Zs := Nat.le_trans Zs Kc3.1
    have V_b3 := Vc3
    refine own_by (B := T3.setTop (mkF m 37 #[.val (.int i0), .val (.int i1), .val (.int i2), .val (.int i3), .val (.int i4), .val (.int (0 : Int32)), .val (.ref b1), .val (.ref b2), .unset, .unset, .unset, .unset, .unset, .unset] [(.ref b3)])) st3 ?_
    refine own_by (B := T3.setTop (mkF m 39 #[.val (.int i0), .val (.int i1), .val (.int i2), .val (.int i3), .val (.int i4), .val (.int (0 : Int32)), .val (.ref b1), .val (.ref b2), .val (.ref b3), .unset, .unset, .unset, .unset, .unset] [])) (fun t k => XS.astore X3.here hx rfl (hb hby at_37) rfl rfl (l' := #[.val (.int i0), .val (.int i1), .val (.int i2), .val (.int i3), .val (.int i4), .val (.int (0 : Int32)), .val (.ref b1), .val (.ref b2), .val (.ref b3), .unset, .unset, .unset, .unset, .unset]) rfl k) ?_
    refine own_by (B := T3.setTop (mkF m 90 #[.val (.int i0), .val (.int i1), .val (.int i2), .val (.int i3), .val (.int i4), .val (.int (0 : Int32)), .val (.ref b1), .val (.ref b2), .val (.ref b3), .unset, .unset, .unset, .unset, .unset] [])) (fun t k => XS.goto X3.here hx rfl (pc0 := 39) (pc' := 90) rfl (hb hby at_39) (by decide) (by decide) k) ?_
    refine own_by (B := T3.setTop (mkF m 92 #[.val (.int i0), .val (.int i1), .val (.int i2), .val (.int i3), .val (.int i4), .val (.int (0 : Int32)), .val (.ref b1), .val (.ref b2), .val (.ref b3), .unset, .unset, .unset, .unset, .unset] [(.int (0 : Int32))])) (fun t k => XS.iload X3.here hx rfl (hb hby at_90) rfl k) ?_
    refine own_by (B := T3.setTop (mkF m 93 #[.val (.int i0), .val (.int i1), .val (.int i2), .val (.int i3), .val (.int i4), .val (.int (0 : Int32)), .val (.ref b1), .val (.ref b2), .val (.ref b3), .unset, .unset, .unset, .unset, .unset] [(.int (1 : Int32)), (.int (0 : Int32))])) (fun t k => XS.iconst X3.here hx rfl (hb hby at_92) k) ?_
    refine own_by (B := T3.setTop (mkF m 102 #[.val (.int i0), .val (.int i1), .val (.int i2), .val (.int i3), .val (.int i4), .val (.int (0 : Int32)), .val (.ref b1), .val (.ref b2), .val (.ref b3), .unset, .unset, .unset, .unset, .unset] [])) (fun t k => XS.icmpYes X3.here hx rfl (pc0 := 93) (pc' := 102) rfl (hb hby at_93) rfl (feq (by decide)).2 (by decide) (by decide) k) ?_
    refine own_by (B := T3.setTop (mkF m 104 #[.val (.int i0), .val (.int i1), .val (.int i2), .val (.int i3), .val (.int i4), .val (.int (0 : Int32)), .val (.ref b1), .val (.ref b2), .val (.ref b3), .unset, .unset, .unset, .unset, .unset] [(.int (0 : Int32))])) (fun t k => XS.iload X3.here hx rfl (hb hby at_102) rfl k) ?_
    refine own_by (B := T3.setTop (mkF m 105 #[.val (.int i0), .val (.int i1), .val (.int i2), .val (.int i3), .val (.int i4), .val (.int (0 : Int32)), .val (.ref b1), .val (.ref b2), .val (.ref b3), .unset, .unset, .unset, .unset, .unset] [(.int (2 : Int32)), (.int (0 : Int32))])) (fun t k => XS.iconst X3.here hx rfl (hb hby at_104) k) ?_
    refine own_by (B := T3.setTop (mkF m 114 #[.val (.int i0), .val (.int i1), .val (.int i2), .val (.int i3), .val (.int i4), .val (.int (0 : Int32)), .val (.ref b1), .val (.ref b2), .val (.ref b3), .unset, .unset, .unset, .unset, .unset] [])) (fun t k => XS.icmpYes X3.here hx rfl (pc0 := 105) (pc' := 114) rfl (hb hby at_105) rfl (feq (by decide)).2 (by decide) (by decide) k) ?_
    refine own_by (B := T3.setTop (mkF m 115 #[.val (.int i0), .val (.int i1), .val (.int i2), .val (.int i3), .val (.int i4), .val (.int (0 : Int32)), .val (.ref b1), .val (.ref b2), .val (.ref b3), .unset, .unset, .unset, .unset, .unset] [(.int i3)])) (fun t k => XS.iloadN X3.here hx rfl (hb hby at_114) rfl k) ?_
    refine own_by (B := T3.setTop (mkF m 117 #[.val (.int i0), .val (.int i1), .val (.int i2), .val (.int i3), .val (.int i4), .val (.int (0 : Int32)), .val (.ref b1), .val (.ref b2), .val (.ref b3), .val (.int i3), .unset, .unset, .unset, .unset] [])) (fun t k => XS.istore X3.here hx rfl (hb hby at_115) rfl (l' := #[.val (.int i0), .val (.int i1), .val (.int i2), .val (.int i3), .val (.int i4), .val (.int (0 : Int32)), .val (.ref b1), .val (.ref b2), .val (.ref b3), .val (.int i3), .unset, .unset, .unset, .unset]) rfl k) ?_
    refine own_by (B := T3.setTop (mkF m 119 #[.val (.int i0), .val (.int i1), .val (.int i2), .val (.int i3), .val (.int i4), .val (.int (0 : Int32)), .val (.ref b1), .val (.ref b2), .val (.ref b3), .val (.int i3), .unset, .unset, .unset, .unset] [(.int (0 : Int32))])) (fun t k => XS.iload X3.here hx rfl (hb hby at_117) rfl k) ?_
    refine own_by (B := T3.setTop (mkF m 129 #[.val (.int i0), .val (.int i1), .val (.int i2), .val (.int i3), .val (.int i4), .val (.int (0 : Int32)), .val (.ref b1), .val (.ref b2), .val (.ref b3), .val (.int i3), .unset, .unset, .unset, .unset] [])) (fun t k => XS.ifYes X3.here hx rfl (pc0 := 119) (pc' := 129) rfl (hb hby at_119) rfl ((if0 _ _).trans (teq (by decide)).1) (by decide) (by decide) k) ?_
    refine own_by (B := T3.setTop (mkF m 130 #[.val (.int i0), .val (.int i1), .val (.int i2), .val (.int i3), .val (.int i4), .val (.int (0 : Int32)), .val (.ref b1), .val (.ref b2), .val (.ref b3), .val (.int i3), .unset, .unset, .unset, .unset] [(.int (1 : Int32))])) (fun t k => XS.iconst X3.here hx rfl (hb hby at_129) k) ?_
    refine own_by (B := T3.setTop (mkF m 134 #[.val (.int i0), .val (.int i1), .val (.int i2), .val (.int i3), .val (.int i4), .val (.int (0 : Int32)), .val (.ref b1), .val (.ref b2), .val (.ref b3), .val (.int i3), .unset, .unset, .unset, .unset] [(.int (1 : Int32))])) (fun t k => XS.goto X3.here hx rfl (pc0 := 130) (pc' := 134) rfl (hb hby at_130) (by decide) (by decide) k) ?_
    refine own_by (B := T3.setTop (mkF m 136 #[.val (.int i0), .val (.int i1), .val (.int i2), .val (.int i3), .val (.int i4), .val (.int (0 : Int32)), .val (.ref b1), .val (.ref b2), .val (.ref b3), .val (.int i3), .val (.int (1 : Int32)), .unset, .unset, .unset] [])) (fun t k => XS.istore X3.here hx rfl (hb hby at_134) rfl (l' := #[.val (.int i0), .val (.int i1), .val (.int i2), .val (.int i3), .val (.int i4), .val (.int (0 : Int32)), .val (.ref b1), .val (.ref b2), .val (.ref b3), .val (.int i3), .val (.int (1 : Int32)), .unset, .unset, .unset]) rfl k) ?_
    obtain ⟨T4, h4, X4, e4, E4, A4, D4, -, st4⟩ := newO X3 hx hZ hown (hw _ (List.mem_of_getElem? (i := 5) rfl)) (hw _ (List.mem_of_getElem? (i := 6) rfl)) (hw _ (List.mem_of_getElem? (i := 7) rfl)) rfl (g := (mkF m 136 #[.val (.int i0), .val (.int i1), .val (.int i2), .val (.int i3), .val (.int i4), .val (.int (0 : Int32)), .val (.ref b1), .val (.ref b2), .val (.ref b3), .val (.int i3), .val (.int (1 : Int32)), .unset, .unset, .unset] [])) rfl (hb hby at_136) (by decide) (by decide)
    obtain ⟨b4, gq4⟩ : ∃ z, z = T3.heap.size := ⟨_, rfl⟩
    rw [← gq4] at A4 D4 st4
    have ne_b1_b4 : b1 ≠ b4 := Nat.ne_of_lt (Nat.lt_of_lt_of_le V_b1.lt (Nat.le_of_eq gq4.symm))
    have ne_b2_b4 : b2 ≠ b4 := Nat.ne_of_lt (Nat.lt_of_lt_of_le V_b2.lt (Nat.le_of_eq gq4.symm))
    have ne_b3_b4 : b3 ≠ b4 := Nat.ne_of_lt (Nat.lt_of_lt_of_le V_b3.lt (Nat.le_of_eq gq4.symm))
    have g_b4 : n0 ≤ b4 := Nat.le_trans Zs (Nat.le_of_eq gq4.symm)
    have V_b1 := V_b1.ext E4
    have V_b2 := V_b2.ext E4
    have V_b3 := V_b3.ext E4
    have Zs := Nat.le_trans Zs E4.1
    have E_b4 := A4
    have F_states_b4 : Fld Z h4 b4 "com/example/processes_as_trees/processesastrees/StateTuple" "states" "[I" .null := D4 (Or.inr (hw _ (List.mem_of_getElem? (i := 20) rfl))) (ty := (.array .int)) (by decide)
    refine own_by (B := T4.setTop (mkF m 139 #[.val (.int i0), .val (.int i1), .val (.int i2), .val (.int i3), .val (.int i4), .val (.int (0 : Int32)), .val (.ref b1), .val (.ref b2), .val (.ref b3), .val (.int i3), .val (.int (1 : Int32)), .unset, .unset, .unset] [(.ref b4)])) st4 ?_
    refine own_by (B := T4.setTop (mkF m 140 #[.val (.int i0), .val (.int i1), .val (.int i2), .val (.int i3), .val (.int i4), .val (.int (0 : Int32)), .val (.ref b1), .val (.ref b2), .val (.ref b3), .val (.int i3), .val (.int (1 : Int32)), .unset, .unset, .unset] [(.ref b4), (.ref b4)])) (fun t k => XS.dup X4.here hx rfl (hb hby at_139) rfl rfl k) ?_
    refine own_by (B := T4.setTop (mkF m 142 #[.val (.int i0), .val (.int i1), .val (.int i2), .val (.int i3), .val (.int i4), .val (.int (0 : Int32)), .val (.ref b1), .val (.ref b2), .val (.ref b3), .val (.int i3), .val (.int (1 : Int32)), .unset, .unset, .unset] [(.ref b1), (.ref b4), (.ref b4)])) (fun t k => XS.aload X4.here hx rfl (hb hby at_140) rfl rfl k) ?_
    obtain ⟨_, _, ⟨T5, L5, k5, n5⟩, -, X5, ⟨Lc5, hQ5, l5, y5, z5⟩, st5⟩ := X4.specialBack hx (y := (⟨"com/example/processes_as_trees/processesastrees/StateTuple", "<init>", "([I)V"⟩ : MethodName)) rfl hown (mvT hZ (hw _ (List.mem_of_getElem? (i := 8) rfl))) (mvT hZ (hw _ (List.mem_of_getElem? (i := 9) rfl))) (mvT hZ (hw _ (List.mem_of_getElem? (i := 10) rfl))) (by decide) (backOf (W := 1) (rmI l Z a0 hw [] b4 b1 h4 n0 Zs E_b4 F_states_b4 g_b4) hZ (hw _ (List.mem_of_getElem? (i := 10) rfl)) (hw _ (List.mem_of_getElem? (i := 7) rfl)) (by decide) (by decide)) (g := (mkF m 142 #[.val (.int i0), .val (.int i1), .val (.int i2), .val (.int i3), .val (.int i4), .val (.int (0 : Int32)), .val (.ref b1), .val (.ref b2), .val (.ref b3), .val (.int i3), .val (.int (1 : Int32)), .unset, .unset, .unset] [(.ref b1), (.ref b4), (.ref b4)])) rfl (by rw [hml]; rfl) (Steps.refl _) (a := b4) (argsL := [(.ref b1)]) (rest := [(.ref b4)]) (lenOf own_pd2 rfl) rfl (by show 2 * 0 + _ ≤ _; exact Nat.le_of_eq rfl) (hb hby at_142) (fun _ _ => ⟨rfl, e4, (by decide : 4 + 0 ≤ _), (by decide : 1 + 0 ≤ _)⟩)
    dsimp only [Pt.U, Pt.locs, Pt.cells, Pt.slots] at X5 l5 y5 z5 st5 hQ5
    subst l5 y5 z5
    obtain ⟨rfl, Nq5, Kc5, Fc5⟩ := hQ5
    have Nf := Fr.app Nf Nq5
    have V_b1 := V_b1.keep Kc5 (ninS ne_b1_b4 nin0)
    have V_b2 := V_b2.keep Kc5 (ninS ne_b2_b4 nin0)
    have V_b3 := V_b3.keep Kc5 (ninS ne_b3_b4 nin0)
    have E_b4 := E_b4.keep Kc5
    have Zs := Nat.le_trans Zs Kc5.1
    have F_states_b4 := Fc5
    refine own_by (B := T5.setTop (mkF m 145 #[.val (.int i0), .val (.int i1), .val (.int i2), .val (.int i3), .val (.int i4), .val (.int (0 : Int32)), .val (.ref b1), .val (.ref b2), .val (.ref b3), .val (.int i3), .val (.int (1 : Int32)), .unset, .unset, .unset] [(.ref b4)])) (fun t k => st5.trans k) ?_
    obtain ⟨cq6, kq6, q6a, q6b, q6c⟩ := isOf hZ rfl E_b4
    obtain ⟨_, _, ⟨T6, L6, k6, n6⟩, -, X6, ⟨Lc6, hQ6, l6, y6, z6⟩, st6⟩ := X5.virtualBack hx (y := (⟨"com/example/processes_as_trees/processesastrees/StateTuple", "hashCode", "()I"⟩ : MethodName)) (z := (⟨"com/example/processes_as_trees/processesastrees/StateTuple", "hashCode", "()I"⟩ : MethodName)) hown (mvT hZ (hw _ (List.mem_of_getElem? (i := 21) rfl))) (mvT hZ (hw _ (List.mem_of_getElem? (i := 22) rfl))) (notFace_of_selects (args := #[]) (mvT hZ (hw _ (List.mem_of_getElem? (i := 24) rfl)))) (mvT hZ (hw _ (List.mem_of_getElem? (i := 24) rfl))) (mvT hZ (hw _ (List.mem_of_getElem? (i := 23) rfl))) (by decide) (backOf (W := 0) (rmH0 l Z a0 hw [] b4 b1 f1  T5.heap n0 Zs F_states_b4 V_b1 ) hZ (hw _ (List.mem_of_getElem? (i := 25) rfl)) (hw _ (List.mem_of_getElem? (i := 7) rfl)) (by decide) (by decide)) q6a q6c (g := (mkF m 145 #[.val (.int i0), .val (.int i1), .val (.int i2), .val (.int i3), .val (.int i4), .val (.int (0 : Int32)), .val (.ref b1), .val (.ref b2), .val (.ref b3), .val (.int i3), .val (.int (1 : Int32)), .unset, .unset, .unset] [(.ref b4)])) rfl (by rw [hml]; rfl) (Steps.refl _) (argsL := []) (rest := []) (lenOf own_pd3 rfl) rfl (by show 2 * 0 + _ ≤ _; exact Nat.le_of_eq rfl) (hb hby at_145) (fun _ _ => ⟨rfl, rfl, (by decide : 4 + 0 ≤ _), (by decide : 1 + 0 ≤ _)⟩)
    dsimp only [Pt.U, Pt.locs, Pt.cells, Pt.slots] at X6 l6 y6 z6 st6 hQ6
    subst l6 y6 z6
    obtain ⟨rfl, Nq6, hp6⟩ := hQ6
    have Nf := Fr.app Nf Nq6
    have ec6 : T6.heap = T5.heap := hp6
    refine own_by (B := T6.setTop (mkF m 148 #[.val (.int i0), .val (.int i1), .val (.int i2), .val (.int i3), .val (.int i4), .val (.int (0 : Int32)), .val (.ref b1), .val (.ref b2), .val (.ref b3), .val (.int i3), .val (.int (1 : Int32)), .unset, .unset, .unset] [(.int (own_fin (0 : Int32)))])) (fun t k => st6.trans k) ?_
    refine own_by (B := T6.setTop (mkF m 150 #[.val (.int i0), .val (.int i1), .val (.int i2), .val (.int i3), .val (.int i4), .val (.int (0 : Int32)), .val (.ref b1), .val (.ref b2), .val (.ref b3), .val (.int i3), .val (.int (1 : Int32)), .val (.int (own_fin (0 : Int32))), .unset, .unset] [])) (fun t k => XS.istore X6.here hx rfl (hb hby at_148) rfl (l' := #[.val (.int i0), .val (.int i1), .val (.int i2), .val (.int i3), .val (.int i4), .val (.int (0 : Int32)), .val (.ref b1), .val (.ref b2), .val (.ref b3), .val (.int i3), .val (.int (1 : Int32)), .val (.int (own_fin (0 : Int32))), .unset, .unset]) rfl k) ?_
    obtain ⟨T7, h7, X7, e7, E7, A7, D7, -, st7⟩ := newO X6 hx hZ hown (hw _ (List.mem_of_getElem? (i := 5) rfl)) (hw _ (List.mem_of_getElem? (i := 6) rfl)) (hw _ (List.mem_of_getElem? (i := 7) rfl)) ec6 (g := (mkF m 150 #[.val (.int i0), .val (.int i1), .val (.int i2), .val (.int i3), .val (.int i4), .val (.int (0 : Int32)), .val (.ref b1), .val (.ref b2), .val (.ref b3), .val (.int i3), .val (.int (1 : Int32)), .val (.int (own_fin (0 : Int32))), .unset, .unset] [])) rfl (hb hby at_150) (by decide) (by decide)
    obtain ⟨b7, gq7⟩ : ∃ z, z = T5.heap.size := ⟨_, rfl⟩
    rw [← gq7] at A7 D7 st7
    have ne_b1_b7 : b1 ≠ b7 := Nat.ne_of_lt (Nat.lt_of_lt_of_le V_b1.lt (Nat.le_of_eq gq7.symm))
    have ne_b2_b7 : b2 ≠ b7 := Nat.ne_of_lt (Nat.lt_of_lt_of_le V_b2.lt (Nat.le_of_eq gq7.symm))
    have ne_b3_b7 : b3 ≠ b7 := Nat.ne_of_lt (Nat.lt_of_lt_of_le V_b3.lt (Nat.le_of_eq gq7.symm))
    have ne_b4_b7 : b4 ≠ b7 := Nat.ne_of_lt (Nat.lt_of_lt_of_le E_b4.lt (Nat.le_of_eq gq7.symm))
    have g_b7 : n0 ≤ b7 := Nat.le_trans Zs (Nat.le_of_eq gq7.symm)
    have V_b1 := V_b1.ext E7
    have V_b2 := V_b2.ext E7
    have V_b3 := V_b3.ext E7
    have E_b4 := E_b4.ext E7
    have F_states_b4 := F_states_b4.ext E7
    have Zs := Nat.le_trans Zs E7.1
    have E_b7 := A7
    have F_states_b7 : Fld Z h7 b7 "com/example/processes_as_trees/processesastrees/StateTuple" "states" "[I" .null := D7 (Or.inr (hw _ (List.mem_of_getElem? (i := 20) rfl))) (ty := (.array .int)) (by decide)
    refine own_by (B := T7.setTop (mkF m 153 #[.val (.int i0), .val (.int i1), .val (.int i2), .val (.int i3), .val (.int i4), .val (.int (0 : Int32)), .val (.ref b1), .val (.ref b2), .val (.ref b3), .val (.int i3), .val (.int (1 : Int32)), .val (.int (own_fin (0 : Int32))), .unset, .unset] [(.ref b7)])) st7 ?_
    refine own_by (B := T7.setTop (mkF m 154 #[.val (.int i0), .val (.int i1), .val (.int i2), .val (.int i3), .val (.int i4), .val (.int (0 : Int32)), .val (.ref b1), .val (.ref b2), .val (.ref b3), .val (.int i3), .val (.int (1 : Int32)), .val (.int (own_fin (0 : Int32))), .unset, .unset] [(.ref b7), (.ref b7)])) (fun t k => XS.dup X7.here hx rfl (hb hby at_153) rfl rfl k) ?_
    refine own_by (B := T7.setTop (mkF m 156 #[.val (.int i0), .val (.int i1), .val (.int i2), .val (.int i3), .val (.int i4), .val (.int (0 : Int32)), .val (.ref b1), .val (.ref b2), .val (.ref b3), .val (.int i3), .val (.int (1 : Int32)), .val (.int (own_fin (0 : Int32))), .unset, .unset] [(.ref b2), (.ref b7), (.ref b7)])) (fun t k => XS.aload X7.here hx rfl (hb hby at_154) rfl rfl k) ?_
    obtain ⟨_, _, ⟨T8, L8, k8, n8⟩, -, X8, ⟨Lc8, hQ8, l8, y8, z8⟩, st8⟩ := X7.specialBack hx (y := (⟨"com/example/processes_as_trees/processesastrees/StateTuple", "<init>", "([I)V"⟩ : MethodName)) rfl hown (mvT hZ (hw _ (List.mem_of_getElem? (i := 8) rfl))) (mvT hZ (hw _ (List.mem_of_getElem? (i := 9) rfl))) (mvT hZ (hw _ (List.mem_of_getElem? (i := 10) rfl))) (by decide) (backOf (W := 1) (rmI l Z a0 hw [] b7 b2 h7 n0 Zs E_b7 F_states_b7 g_b7) hZ (hw _ (List.mem_of_getElem? (i := 10) rfl)) (hw _ (List.mem_of_getElem? (i := 7) rfl)) (by decide) (by decide)) (g := (mkF m 156 #[.val (.int i0), .val (.int i1), .val (.int i2), .val (.int i3), .val (.int i4), .val (.int (0 : Int32)), .val (.ref b1), .val (.ref b2), .val (.ref b3), .val (.int i3), .val (.int (1 : Int32)), .val (.int (own_fin (0 : Int32))), .unset, .unset] [(.ref b2), (.ref b7), (.ref b7)])) rfl (by rw [hml]; rfl) (Steps.refl _) (a := b7) (argsL := [(.ref b2)]) (rest := [(.ref b7)]) (lenOf own_pd2 rfl) rfl (by show 2 * 0 + _ ≤ _; exact Nat.le_of_eq rfl) (hb hby at_156) (fun _ _ => ⟨rfl, e7, (by decide : 5 + 0 ≤ _), (by decide : 2 + 0 ≤ _)⟩)
    dsimp only [Pt.U, Pt.locs, Pt.cells, Pt.slots] at X8 l8 y8 z8 st8 hQ8
    subst l8 y8 z8
    obtain ⟨rfl, Nq8, Kc8, Fc8⟩ := hQ8
    have Nf := Fr.app Nf Nq8
    have V_b1 := V_b1.keep Kc8 (ninS ne_b1_b7 nin0)
    have V_b2 := V_b2.keep Kc8 (ninS ne_b2_b7 nin0)
    have V_b3 := V_b3.keep Kc8 (ninS ne_b3_b7 nin0)
    have E_b4 := E_b4.keep Kc8
    have F_states_b4 := F_states_b4.keep Kc8 (ninS ne_b4_b7 nin0)
    have E_b7 := E_b7.keep Kc8
    have Zs := Nat.le_trans Zs Kc8.1
    have F_states_b7 := Fc8
    refine own_by (B := T8.setTop (mkF m 159 #[.val (.int i0), .val (.int i1), .val (.int i2), .val (.int i3), .val (.int i4), .val (.int (0 : Int32)), .val (.ref b1), .val (.ref b2), .val (.ref b3), .val (.int i3), .val (.int (1 : Int32)), .val (.int (own_fin (0 : Int32))), .unset, .unset] [(.ref b7)])) (fun t k => st8.trans k) ?_
    obtain ⟨cq9, kq9, q9a, q9b, q9c⟩ := isOf hZ rfl E_b7
    obtain ⟨_, _, ⟨T9, L9, k9, n9⟩, -, X9, ⟨Lc9, hQ9, l9, y9, z9⟩, st9⟩ := X8.virtualBack hx (y := (⟨"com/example/processes_as_trees/processesastrees/StateTuple", "hashCode", "()I"⟩ : MethodName)) (z := (⟨"com/example/processes_as_trees/processesastrees/StateTuple", "hashCode", "()I"⟩ : MethodName)) hown (mvT hZ (hw _ (List.mem_of_getElem? (i := 21) rfl))) (mvT hZ (hw _ (List.mem_of_getElem? (i := 22) rfl))) (notFace_of_selects (args := #[]) (mvT hZ (hw _ (List.mem_of_getElem? (i := 24) rfl)))) (mvT hZ (hw _ (List.mem_of_getElem? (i := 24) rfl))) (mvT hZ (hw _ (List.mem_of_getElem? (i := 23) rfl))) (by decide) (backOf (W := 0) (rmH0 l Z a0 hw [] b7 b2 f2  T8.heap n0 Zs F_states_b7 V_b2 ) hZ (hw _ (List.mem_of_getElem? (i := 25) rfl)) (hw _ (List.mem_of_getElem? (i := 7) rfl)) (by decide) (by decide)) q9a q9c (g := (mkF m 159 #[.val (.int i0), .val (.int i1), .val (.int i2), .val (.int i3), .val (.int i4), .val (.int (0 : Int32)), .val (.ref b1), .val (.ref b2), .val (.ref b3), .val (.int i3), .val (.int (1 : Int32)), .val (.int (own_fin (0 : Int32))), .unset, .unset] [(.ref b7)])) rfl (by rw [hml]; rfl) (Steps.refl _) (argsL := []) (rest := []) (lenOf own_pd3 rfl) rfl (by show 2 * 0 + _ ≤ _; exact Nat.le_of_eq rfl) (hb hby at_159) (fun _ _ => ⟨rfl, rfl, (by decide : 5 + 0 ≤ _), (by decide : 2 + 0 ≤ _)⟩)
    dsimp only [Pt.U, Pt.locs, Pt.cells, Pt.slots] at X9 l9 y9 z9 st9 hQ9
    subst l9 y9 z9
    obtain ⟨rfl, Nq9, hp9⟩ := hQ9
    have Nf := Fr.app Nf Nq9
    have ec9 : T9.heap = T8.heap := hp9
    refine own_by (B := T9.setTop (mkF m 162 #[.val (.int i0), .val (.int i1), .val (.int i2), .val (.int i3), .val (.int i4), .val (.int (0 : Int32)), .val (.ref b1), .val (.ref b2), .val (.ref b3), .val (.int i3), .val (.int (1 : Int32)), .val (.int (own_fin (0 : Int32))), .unset, .unset] [(.int (own_fin (0 : Int32)))])) (fun t k => st9.trans k) ?_
    refine own_by (B := T9.setTop (mkF m 164 #[.val (.int i0), .val (.int i1), .val (.int i2), .val (.int i3), .val (.int i4), .val (.int (0 : Int32)), .val (.ref b1), .val (.ref b2), .val (.ref b3), .val (.int i3), .val (.int (1 : Int32)), .val (.int (own_fin (0 : Int32))), .val (.int (own_fin (0 : Int32))), .unset] [])) (fun t k => XS.istore X9.here hx rfl (hb hby at_162) rfl (l' := #[.val (.int i0), .val (.int i1), .val (.int i2), .val (.int i3), .val (.int i4), .val (.int (0 : Int32)), .val (.ref b1), .val (.ref b2), .val (.ref b3), .val (.int i3), .val (.int (1 : Int32)), .val (.int (own_fin (0 : Int32))), .val (.int (own_fin (0 : Int32))), .unset]) rfl k) ?_
    obtain ⟨T10, h10, X10, e10, E10, A10, D10, -, st10⟩ := newO X9 hx hZ hown (hw _ (List.mem_of_getElem? (i := 5) rfl)) (hw _ (List.mem_of_getElem? (i := 6) rfl)) (hw _ (List.mem_of_getElem? (i := 7) rfl)) ec9 (g := (mkF m 164 #[.val (.int i0), .val (.int i1), .val (.int i2), .val (.int i3), .val (.int i4), .val (.int (0 : Int32)), .val (.ref b1), .val (.ref b2), .val (.ref b3), .val (.int i3), .val (.int (1 : Int32)), .val (.int (own_fin (0 : Int32))), .val (.int (own_fin (0 : Int32))), .unset] [])) rfl (hb hby at_164) (by decide) (by decide)
    obtain ⟨b10, gq10⟩ : ∃ z, z = T8.heap.size := ⟨_, rfl⟩
    rw [← gq10] at A10 D10 st10
    have ne_b1_b10 : b1 ≠ b10 := Nat.ne_of_lt (Nat.lt_of_lt_of_le V_b1.lt (Nat.le_of_eq gq10.symm))
    have ne_b2_b10 : b2 ≠ b10 := Nat.ne_of_lt (Nat.lt_of_lt_of_le V_b2.lt (Nat.le_of_eq gq10.symm))
    have ne_b3_b10 : b3 ≠ b10 := Nat.ne_of_lt (Nat.lt_of_lt_of_le V_b3.lt (Nat.le_of_eq gq10.symm))
    have ne_b4_b10 : b4 ≠ b10 := Nat.ne_of_lt (Nat.lt_of_lt_of_le E_b4.lt (Nat.le_of_eq gq10.symm))
    have ne_b7_b10 : b7 ≠ b10 := Nat.ne_of_lt (Nat.lt_of_lt_of_le E_b7.lt (Nat.le_of_eq gq10.symm))
    have g_b10 : n0 ≤ b10 := Nat.le_trans Zs (Nat.le_of_eq gq10.symm)
    have V_b1 := V_b1.ext E10
    have V_b2 := V_b2.ext E10
    have V_b3 := V_b3.ext E10
    have E_b4 := E_b4.ext E10
    have F_states_b4 := F_states_b4.ext E10
    have E_b7 := E_b7.ext E10
    have F_states_b7 := F_states_b7.ext E10
    have Zs := Nat.le_trans Zs E10.1
    have E_b10 := A10
    have F_states_b10 : Fld Z h10 b10 "com/example/processes_as_trees/processesastrees/StateTuple" "states" "[I" .null := D10 (Or.inr (hw _ (List.mem_of_getElem? (i := 20) rfl))) (ty := (.array .int)) (by decide)
    refine own_by (B := T10.setTop (mkF m 167 #[.val (.int i0), .val (.int i1), .val (.int i2), .val (.int i3), .val (.int i4), .val (.int (0 : Int32)), .val (.ref b1), .val (.ref b2), .val (.ref b3), .val (.int i3), .val (.int (1 : Int32)), .val (.int (own_fin (0 : Int32))), .val (.int (own_fin (0 : Int32))), .unset] [(.ref b10)])) st10 ?_
    refine own_by (B := T10.setTop (mkF m 168 #[.val (.int i0), .val (.int i1), .val (.int i2), .val (.int i3), .val (.int i4), .val (.int (0 : Int32)), .val (.ref b1), .val (.ref b2), .val (.ref b3), .val (.int i3), .val (.int (1 : Int32)), .val (.int (own_fin (0 : Int32))), .val (.int (own_fin (0 : Int32))), .unset] [(.ref b10), (.ref b10)])) (fun t k => XS.dup X10.here hx rfl (hb hby at_167) rfl rfl k) ?_
    refine own_by (B := T10.setTop (mkF m 170 #[.val (.int i0), .val (.int i1), .val (.int i2), .val (.int i3), .val (.int i4), .val (.int (0 : Int32)), .val (.ref b1), .val (.ref b2), .val (.ref b3), .val (.int i3), .val (.int (1 : Int32)), .val (.int (own_fin (0 : Int32))), .val (.int (own_fin (0 : Int32))), .unset] [(.ref b3), (.ref b10), (.ref b10)])) (fun t k => XS.aload X10.here hx rfl (hb hby at_168) rfl rfl k) ?_
    obtain ⟨_, _, ⟨T11, L11, k11, n11⟩, -, X11, ⟨Lc11, hQ11, l11, y11, z11⟩, st11⟩ := X10.specialBack hx (y := (⟨"com/example/processes_as_trees/processesastrees/StateTuple", "<init>", "([I)V"⟩ : MethodName)) rfl hown (mvT hZ (hw _ (List.mem_of_getElem? (i := 8) rfl))) (mvT hZ (hw _ (List.mem_of_getElem? (i := 9) rfl))) (mvT hZ (hw _ (List.mem_of_getElem? (i := 10) rfl))) (by decide) (backOf (W := 1) (rmI l Z a0 hw [] b10 b3 h10 n0 Zs E_b10 F_states_b10 g_b10) hZ (hw _ (List.mem_of_getElem? (i := 10) rfl)) (hw _ (List.mem_of_getElem? (i := 7) rfl)) (by decide) (by decide)) (g := (mkF m 170 #[.val (.int i0), .val (.int i1), .val (.int i2), .val (.int i3), .val (.int i4), .val (.int (0 : Int32)), .val (.ref b1), .val (.ref b2), .val (.ref b3), .val (.int i3), .val (.int (1 : Int32)), .val (.int (own_fin (0 : Int32))), .val (.int (own_fin (0 : Int32))), .unset] [(.ref b3), (.ref b10), (.ref b10)])) rfl (by rw [hml]; rfl) (Steps.refl _) (a := b10) (argsL := [(.ref b3)]) (rest := [(.ref b10)]) (lenOf own_pd2 rfl) rfl (by show 2 * 0 + _ ≤ _; exact Nat.le_of_eq rfl) (hb hby at_170) (fun _ _ => ⟨rfl, e10, (by decide : 6 + 0 ≤ _), (by decide : 3 + 0 ≤ _)⟩)
    dsimp only [Pt.U, Pt.locs, Pt.cells, Pt.slots] at X11 l11 y11 z11 st11 hQ11
    subst l11 y11 z11
    obtain ⟨rfl, Nq11, Kc11, Fc11⟩ := hQ11
    have Nf := Fr.app Nf Nq11
    have V_b1 := V_b1.keep Kc11 (ninS ne_b1_b10 nin0)
    have V_b2 := V_b2.keep Kc11 (ninS ne_b2_b10 nin0)
    have V_b3 := V_b3.keep Kc11 (ninS ne_b3_b10 nin0)
    have E_b4 := E_b4.keep Kc11
    have F_states_b4 := F_states_b4.keep Kc11 (ninS ne_b4_b10 nin0)
    have E_b7 := E_b7.keep Kc11
    have F_states_b7 := F_states_b7.keep Kc11 (ninS ne_b7_b10 nin0)
    have E_b10 := E_b10.keep Kc11
    have Zs := Nat.le_trans Zs Kc11.1
    have F_states_b10 := Fc11
    refine own_by (B := T11.setTop (mkF m 173 #[.val (.int i0), .val (.int i1), .val (.int i2), .val (.int i3), .val (.int i4), .val (.int (0 : Int32)), .val (.ref b1), .val (.ref b2), .val (.ref b3), .val (.int i3), .val (.int (1 : Int32)), .val (.int (own_fin (0 : Int32))), .val (.int (own_fin (0 : Int32))), .unset] [(.ref b10)])) (fun t k => st11.trans k) ?_
    obtain ⟨cq12, kq12, q12a, q12b, q12c⟩ := isOf hZ rfl E_b10
    obtain ⟨_, _, ⟨T12, L12, k12, n12⟩, -, X12, ⟨Lc12, hQ12, l12, y12, z12⟩, st12⟩ := X11.virtualBack hx (y := (⟨"com/example/processes_as_trees/processesastrees/StateTuple", "hashCode", "()I"⟩ : MethodName)) (z := (⟨"com/example/processes_as_trees/processesastrees/StateTuple", "hashCode", "()I"⟩ : MethodName)) hown (mvT hZ (hw _ (List.mem_of_getElem? (i := 21) rfl))) (mvT hZ (hw _ (List.mem_of_getElem? (i := 22) rfl))) (notFace_of_selects (args := #[]) (mvT hZ (hw _ (List.mem_of_getElem? (i := 24) rfl)))) (mvT hZ (hw _ (List.mem_of_getElem? (i := 24) rfl))) (mvT hZ (hw _ (List.mem_of_getElem? (i := 23) rfl))) (by decide) (backOf (W := 0) (rmH0 l Z a0 hw [] b10 b3 f3  T11.heap n0 Zs F_states_b10 V_b3 ) hZ (hw _ (List.mem_of_getElem? (i := 25) rfl)) (hw _ (List.mem_of_getElem? (i := 7) rfl)) (by decide) (by decide)) q12a q12c (g := (mkF m 173 #[.val (.int i0), .val (.int i1), .val (.int i2), .val (.int i3), .val (.int i4), .val (.int (0 : Int32)), .val (.ref b1), .val (.ref b2), .val (.ref b3), .val (.int i3), .val (.int (1 : Int32)), .val (.int (own_fin (0 : Int32))), .val (.int (own_fin (0 : Int32))), .unset] [(.ref b10)])) rfl (by rw [hml]; rfl) (Steps.refl _) (argsL := []) (rest := []) (lenOf own_pd3 rfl) rfl (by show 2 * 0 + _ ≤ _; exact Nat.le_of_eq rfl) (hb hby at_173) (fun _ _ => ⟨rfl, rfl, (by decide : 6 + 0 ≤ _), (by decide : 3 + 0 ≤ _)⟩)
    dsimp only [Pt.U, Pt.locs, Pt.cells, Pt.slots] at X12 l12 y12 z12 st12 hQ12
    subst l12 y12 z12
    obtain ⟨rfl, Nq12, hp12⟩ := hQ12
    have Nf := Fr.app Nf Nq12
    have ec12 : T12.heap = T11.heap := hp12
    refine own_by (B := T12.setTop (mkF m 176 #[.val (.int i0), .val (.int i1), .val (.int i2), .val (.int i3), .val (.int i4), .val (.int (0 : Int32)), .val (.ref b1), .val (.ref b2), .val (.ref b3), .val (.int i3), .val (.int (1 : Int32)), .val (.int (own_fin (0 : Int32))), .val (.int (own_fin (0 : Int32))), .unset] [(.int (own_fin (0 : Int32)))])) (fun t k => st12.trans k) ?_
    refine own_by (B := T12.setTop (mkF m 178 #[.val (.int i0), .val (.int i1), .val (.int i2), .val (.int i3), .val (.int i4), .val (.int (0 : Int32)), .val (.ref b1), .val (.ref b2), .val (.ref b3), .val (.int i3), .val (.int (1 : Int32)), .val (.int (own_fin (0 : Int32))), .val (.int (own_fin (0 : Int32))), .val (.int (own_fin (0 : Int32)))] [])) (fun t k => XS.istore X12.here hx rfl (hb hby at_176) rfl (l' := #[.val (.int i0), .val (.int i1), .val (.int i2), .val (.int i3), .val (.int i4), .val (.int (0 : Int32)), .val (.ref b1), .val (.ref b2), .val (.ref b3), .val (.int i3), .val (.int (1 : Int32)), .val (.int (own_fin (0 : Int32))), .val (.int (own_fin (0 : Int32))), .val (.int (own_fin (0 : Int32)))]) rfl k) ?_
    refine own_by (B := T12.setTop (mkF m 180 #[.val (.int i0), .val (.int i1), .val (.int i2), .val (.int i3), .val (.int i4), .val (.int (0 : Int32)), .val (.ref b1), .val (.ref b2), .val (.ref b3), .val (.int i3), .val (.int (1 : Int32)), .val (.int (own_fin (0 : Int32))), .val (.int (own_fin (0 : Int32))), .val (.int (own_fin (0 : Int32)))] [(.int (own_fin (0 : Int32)))])) (fun t k => XS.iload X12.here hx rfl (hb hby at_178) rfl k) ?_
    refine own_by (B := T12.setTop (mkF m 182 #[.val (.int i0), .val (.int i1), .val (.int i2), .val (.int i3), .val (.int i4), .val (.int (0 : Int32)), .val (.ref b1), .val (.ref b2), .val (.ref b3), .val (.int i3), .val (.int (1 : Int32)), .val (.int (own_fin (0 : Int32))), .val (.int (own_fin (0 : Int32))), .val (.int (own_fin (0 : Int32)))] [(.int (own_fin (0 : Int32))), (.int (own_fin (0 : Int32)))])) (fun t k => XS.iload X12.here hx rfl (hb hby at_180) rfl k) ?_
    refine own_by (B := T12.setTop (mkF m 185 #[.val (.int i0), .val (.int i1), .val (.int i2), .val (.int i3), .val (.int i4), .val (.int (0 : Int32)), .val (.ref b1), .val (.ref b2), .val (.ref b3), .val (.int i3), .val (.int (1 : Int32)), .val (.int (own_fin (0 : Int32))), .val (.int (own_fin (0 : Int32))), .val (.int (own_fin (0 : Int32)))] [])) (fun t k => XS.icmpNo X12.here hx rfl (hb hby at_182) rfl (teq rfl).2 k) ?_
    refine own_by (B := T12.setTop (mkF m 187 #[.val (.int i0), .val (.int i1), .val (.int i2), .val (.int i3), .val (.int i4), .val (.int (0 : Int32)), .val (.ref b1), .val (.ref b2), .val (.ref b3), .val (.int i3), .val (.int (1 : Int32)), .val (.int (own_fin (0 : Int32))), .val (.int (own_fin (0 : Int32))), .val (.int (own_fin (0 : Int32)))] [(.int (own_fin (0 : Int32)))])) (fun t k => XS.iload X12.here hx rfl (hb hby at_185) rfl k) ?_
    refine own_by (B := T12.setTop (mkF m 189 #[.val (.int i0), .val (.int i1), .val (.int i2), .val (.int i3), .val (.int i4), .val (.int (0 : Int32)), .val (.ref b1), .val (.ref b2), .val (.ref b3), .val (.int i3), .val (.int (1 : Int32)), .val (.int (own_fin (0 : Int32))), .val (.int (own_fin (0 : Int32))), .val (.int (own_fin (0 : Int32)))] [(.int (own_fin (0 : Int32))), (.int (own_fin (0 : Int32)))])) (fun t k => XS.iload X12.here hx rfl (hb hby at_187) rfl k) ?_
    refine own_by (B := T12.setTop (mkF m 192 #[.val (.int i0), .val (.int i1), .val (.int i2), .val (.int i3), .val (.int i4), .val (.int (0 : Int32)), .val (.ref b1), .val (.ref b2), .val (.ref b3), .val (.int i3), .val (.int (1 : Int32)), .val (.int (own_fin (0 : Int32))), .val (.int (own_fin (0 : Int32))), .val (.int (own_fin (0 : Int32)))] [])) (fun t k => XS.icmpNo X12.here hx rfl (hb hby at_189) rfl (teq rfl).2 k) ?_
    refine own_by (B := T12.setTop (mkF m 193 #[.val (.int i0), .val (.int i1), .val (.int i2), .val (.int i3), .val (.int i4), .val (.int (0 : Int32)), .val (.ref b1), .val (.ref b2), .val (.ref b3), .val (.int i3), .val (.int (1 : Int32)), .val (.int (own_fin (0 : Int32))), .val (.int (own_fin (0 : Int32))), .val (.int (own_fin (0 : Int32)))] [(.int (1 : Int32))])) (fun t k => XS.iconst X12.here hx rfl (hb hby at_192) k) ?_
    refine own_by (B := T12.setTop (mkF m 197 #[.val (.int i0), .val (.int i1), .val (.int i2), .val (.int i3), .val (.int i4), .val (.int (0 : Int32)), .val (.ref b1), .val (.ref b2), .val (.ref b3), .val (.int i3), .val (.int (1 : Int32)), .val (.int (own_fin (0 : Int32))), .val (.int (own_fin (0 : Int32))), .val (.int (own_fin (0 : Int32)))] [(.int (1 : Int32))])) (fun t k => XS.goto X12.here hx rfl (pc0 := 193) (pc' := 197) rfl (hb hby at_193) (by decide) (by decide) k) ?_
    refine own_by (B := T12.setTop (mkF m 199 #[.val (.int i0), .val (.int i1), .val (.int i2), .val (.int i3), .val (.int i4), .val (.int (0 : Int32)), .val (.ref b1), .val (.ref b2), .val (.ref b3), .val (.int i3), .val (.int (1 : Int32)), .val (.int (own_fin (0 : Int32))), .val (.int (own_fin (0 : Int32))), .val (.int (own_fin (0 : Int32)))] [(.int (1 : Int32)), (.int (1 : Int32))])) (fun t k => XS.iload X12.here hx rfl (hb hby at_197) rfl k) ?_
    refine own_by (B := T12.setTop (mkF m 202 #[.val (.int i0), .val (.int i1), .val (.int i2), .val (.int i3), .val (.int i4), .val (.int (0 : Int32)), .val (.ref b1), .val (.ref b2), .val (.ref b3), .val (.int i3), .val (.int (1 : Int32)), .val (.int (own_fin (0 : Int32))), .val (.int (own_fin (0 : Int32))), .val (.int (own_fin (0 : Int32)))] [])) (fun t k => XS.icmpNo X12.here hx rfl (hb hby at_199) rfl (teq (by decide)).2 k) ?_
    refine own_by (B := T12.setTop (mkF m 203 #[.val (.int i0), .val (.int i1), .val (.int i2), .val (.int i3), .val (.int i4), .val (.int (0 : Int32)), .val (.ref b1), .val (.ref b2), .val (.ref b3), .val (.int i3), .val (.int (1 : Int32)), .val (.int (own_fin (0 : Int32))), .val (.int (own_fin (0 : Int32))), .val (.int (own_fin (0 : Int32)))] [(.int (1 : Int32))])) (fun t k => XS.iconst X12.here hx rfl (hb hby at_202) k) ?_
    refine own_by (B := T12.setTop (mkF m 207 #[.val (.int i0), .val (.int i1), .val (.int i2), .val (.int i3), .val (.int i4), .val (.int (0 : Int32)), .val (.ref b1), .val (.ref b2), .val (.ref b3), .val (.int i3), .val (.int (1 : Int32)), .val (.int (own_fin (0 : Int32))), .val (.int (own_fin (0 : Int32))), .val (.int (own_fin (0 : Int32)))] [(.int (1 : Int32))])) (fun t k => XS.goto X12.here hx rfl (pc0 := 203) (pc' := 207) rfl (hb hby at_203) (by decide) (by decide) k) ?_
    exact own_end X12 (v := some (.int (1 : Int32))) (fun h => by rw [Bd.returns] at h; cases h) (BodyLoose.notSynchronized Bd) (Q := (Q_rm0 Z i0 i1 i2 i3 i4 h0 n0)) (fun fs hr => retN X12 hx (t := .boolean) Bd.returns (by simp) (hb hby at_207) hr) (show (Q_rm0 Z i0 i1 i2 i3 i4 h0 n0) _ T12.heap _ from (by rw [ec12]; exact ⟨rfl, Nf⟩)) (by decide) (by decide)
  · rw [hq]
    refine own_by (B := s₁.setTop (mkF m 7 #[.val (.int i0), .val (.int i1), .val (.int i2), .val (.int i3), .val (.int i4), .val (.int (1 : Int32)), .unset, .unset, .unset, .unset, .unset, .unset, .unset, .unset] [(.int (1 : Int32))])) (fun t k => XS.iload X0.here hx rfl (hb hby at_5) rfl k) ?_
    refine own_by (B := s₁.setTop (mkF m 8 #[.val (.int i0), .val (.int i1), .val (.int i2), .val (.int i3), .val (.int i4), .val (.int (1 : Int32)), .unset, .unset, .unset, .unset, .unset, .unset, .unset, .unset] [(.int i1), (.int (1 : Int32))])) (fun t k => XS.iloadN X0.here hx rfl (hb hby at_7) rfl k) ?_
    refine own_by (B := s₁.setTop (mkF m 9 #[.val (.int i0), .val (.int i1), .val (.int i2), .val (.int i3), .val (.int i4), .val (.int (1 : Int32)), .unset, .unset, .unset, .unset, .unset, .unset, .unset, .unset] [(.int i2), (.int i1), (.int (1 : Int32))])) (fun t k => XS.iloadN X0.here hx rfl (hb hby at_8) rfl k) ?_
    refine own_by (B := s₁.setTop (mkF m 10 #[.val (.int i0), .val (.int i1), .val (.int i2), .val (.int i3), .val (.int i4), .val (.int (1 : Int32)), .unset, .unset, .unset, .unset, .unset, .unset, .unset, .unset] [(.int i3), (.int i2), (.int i1), (.int (1 : Int32))])) (fun t k => XS.iloadN X0.here hx rfl (hb hby at_9) rfl k) ?_
    obtain ⟨_, _, ⟨T13, L13, k13, n13⟩, -, X13, ⟨Lc13, hQ13, l13, y13, z13⟩, st13⟩ := Jvm.LawKit.callS X0 hx (y := (⟨"com/example/processes_as_trees/processesastrees/StateTupleHashCodePinLaw", "make", "(IIII)[I"⟩ : MethodName)) hown (mvT hZ (hw _ (List.mem_of_getElem? (i := 0) rfl))) (mvT hZ (hw _ (List.mem_of_getElem? (i := 1) rfl))) (mvT hZ (hw _ (List.mem_of_getElem? (i := 2) rfl))) (mvT hZ (hw _ (List.mem_of_getElem? (i := 3) rfl))) (by decide) (backOf (W := 0) (rmM1 l Z a0 hw [] i1 i2 i3 h0 n0 Zs) hZ (hw _ (List.mem_of_getElem? (i := 3) rfl)) (hw _ (List.mem_of_getElem? (i := 2) rfl)) (by decide) (by decide)) (g := (mkF m 10 #[.val (.int i0), .val (.int i1), .val (.int i2), .val (.int i3), .val (.int i4), .val (.int (1 : Int32)), .unset, .unset, .unset, .unset, .unset, .unset, .unset, .unset] [(.int i3), (.int i2), (.int i1), (.int (1 : Int32))])) rfl (by rw [hml]; rfl) (argsL := [(.int (1 : Int32)), (.int i1), (.int i2), (.int i3)]) (rest := []) (lenOf own_pd1 rfl) rfl (by show 2 * 0 + _ ≤ _; exact Nat.le_of_eq rfl) (hb hby at_10) (fun _ _ => ⟨rfl, e0, (by decide : 0 + 1 ≤ _), (by decide : 0 + 1 ≤ _)⟩)
    dsimp only [Pt.U, Pt.locs, Pt.cells, Pt.slots] at X13 l13 y13 z13 st13 hQ13
    subst l13 y13 z13
    obtain ⟨rfl, Nq13, Kc13, f13, Vc13, hf13_0⟩ := hQ13
    have Nf := Fr.app Nf Nq13
    obtain ⟨b13, gq13⟩ : ∃ z, z = h0.size := ⟨_, rfl⟩
    rw [← gq13] at Vc13 st13
    have g_b13 : n0 ≤ b13 := Nat.le_trans Zs (Nat.le_of_eq gq13.symm)
    have Zs := Nat.le_trans Zs Kc13.1
    have V_b13 := Vc13
    refine own_by (B := T13.setTop (mkF m 13 #[.val (.int i0), .val (.int i1), .val (.int i2), .val (.int i3), .val (.int i4), .val (.int (1 : Int32)), .unset, .unset, .unset, .unset, .unset, .unset, .unset, .unset] [(.ref b13)])) st13 ?_
    refine own_by (B := T13.setTop (mkF m 15 #[.val (.int i0), .val (.int i1), .val (.int i2), .val (.int i3), .val (.int i4), .val (.int (1 : Int32)), .val (.ref b13), .unset, .unset, .unset, .unset, .unset, .unset, .unset] [])) (fun t k => XS.astore X13.here hx rfl (hb hby at_13) rfl rfl (l' := #[.val (.int i0), .val (.int i1), .val (.int i2), .val (.int i3), .val (.int i4), .val (.int (1 : Int32)), .val (.ref b13), .unset, .unset, .unset, .unset, .unset, .unset, .unset]) rfl k) ?_
    refine own_by (B := T13.setTop (mkF m 17 #[.val (.int i0), .val (.int i1), .val (.int i2), .val (.int i3), .val (.int i4), .val (.int (1 : Int32)), .val (.ref b13), .unset, .unset, .unset, .unset, .unset, .unset, .unset] [(.int (1 : Int32))])) (fun t k => XS.iload X13.here hx rfl (hb hby at_15) rfl k) ?_
    refine own_by (B := T13.setTop (mkF m 18 #[.val (.int i0), .val (.int i1), .val (.int i2), .val (.int i3), .val (.int i4), .val (.int (1 : Int32)), .val (.ref b13), .unset, .unset, .unset, .unset, .unset, .unset, .unset] [(.int i1), (.int (1 : Int32))])) (fun t k => XS.iloadN X13.here hx rfl (hb hby at_17) rfl k) ?_
    refine own_by (B := T13.setTop (mkF m 19 #[.val (.int i0), .val (.int i1), .val (.int i2), .val (.int i3), .val (.int i4), .val (.int (1 : Int32)), .val (.ref b13), .unset, .unset, .unset, .unset, .unset, .unset, .unset] [(.int i2), (.int i1), (.int (1 : Int32))])) (fun t k => XS.iloadN X13.here hx rfl (hb hby at_18) rfl k) ?_
    refine own_by (B := T13.setTop (mkF m 20 #[.val (.int i0), .val (.int i1), .val (.int i2), .val (.int i3), .val (.int i4), .val (.int (1 : Int32)), .val (.ref b13), .unset, .unset, .unset, .unset, .unset, .unset, .unset] [(.int i3), (.int i2), (.int i1), (.int (1 : Int32))])) (fun t k => XS.iloadN X13.here hx rfl (hb hby at_19) rfl k) ?_
    obtain ⟨_, _, ⟨T14, L14, k14, n14⟩, -, X14, ⟨Lc14, hQ14, l14, y14, z14⟩, st14⟩ := Jvm.LawKit.callS X13 hx (y := (⟨"com/example/processes_as_trees/processesastrees/StateTupleHashCodePinLaw", "make", "(IIII)[I"⟩ : MethodName)) hown (mvT hZ (hw _ (List.mem_of_getElem? (i := 0) rfl))) (mvT hZ (hw _ (List.mem_of_getElem? (i := 1) rfl))) (mvT hZ (hw _ (List.mem_of_getElem? (i := 2) rfl))) (mvT hZ (hw _ (List.mem_of_getElem? (i := 3) rfl))) (by decide) (backOf (W := 0) (rmM1 l Z a0 hw [] i1 i2 i3 T13.heap n0 Zs) hZ (hw _ (List.mem_of_getElem? (i := 3) rfl)) (hw _ (List.mem_of_getElem? (i := 2) rfl)) (by decide) (by decide)) (g := (mkF m 20 #[.val (.int i0), .val (.int i1), .val (.int i2), .val (.int i3), .val (.int i4), .val (.int (1 : Int32)), .val (.ref b13), .unset, .unset, .unset, .unset, .unset, .unset, .unset] [(.int i3), (.int i2), (.int i1), (.int (1 : Int32))])) rfl (by rw [hml]; rfl) (argsL := [(.int (1 : Int32)), (.int i1), (.int i2), (.int i3)]) (rest := []) (lenOf own_pd1 rfl) rfl (by show 2 * 0 + _ ≤ _; exact Nat.le_of_eq rfl) (hb hby at_20) (fun _ _ => ⟨rfl, rfl, (by decide : 1 + 1 ≤ _), (by decide : 1 + 1 ≤ _)⟩)
    dsimp only [Pt.U, Pt.locs, Pt.cells, Pt.slots] at X14 l14 y14 z14 st14 hQ14
    subst l14 y14 z14
    obtain ⟨rfl, Nq14, Kc14, f14, Vc14, hf14_0⟩ := hQ14
    have Nf := Fr.app Nf Nq14
    obtain ⟨b14, gq14⟩ : ∃ z, z = T13.heap.size := ⟨_, rfl⟩
    rw [← gq14] at Vc14 st14
    have ne_b13_b14 : b13 ≠ b14 := Nat.ne_of_lt (Nat.lt_of_lt_of_le V_b13.lt (Nat.le_of_eq gq14.symm))
    have g_b14 : n0 ≤ b14 := Nat.le_trans Zs (Nat.le_of_eq gq14.symm)
    have V_b13 := V_b13.keep Kc14 nin0
    have Zs := Nat.le_trans Zs Kc14.1
    have V_b14 := Vc14
    refine own_by (B := T14.setTop (mkF m 23 #[.val (.int i0), .val (.int i1), .val (.int i2), .val (.int i3), .val (.int i4), .val (.int (1 : Int32)), .val (.ref b13), .unset, .unset, .unset, .unset, .unset, .unset, .unset] [(.ref b14)])) st14 ?_
    refine own_by (B := T14.setTop (mkF m 25 #[.val (.int i0), .val (.int i1), .val (.int i2), .val (.int i3), .val (.int i4), .val (.int (1 : Int32)), .val (.ref b13), .val (.ref b14), .unset, .unset, .unset, .unset, .unset, .unset] [])) (fun t k => XS.astore X14.here hx rfl (hb hby at_23) rfl rfl (l' := #[.val (.int i0), .val (.int i1), .val (.int i2), .val (.int i3), .val (.int i4), .val (.int (1 : Int32)), .val (.ref b13), .val (.ref b14), .unset, .unset, .unset, .unset, .unset, .unset]) rfl k) ?_
    refine own_by (B := T14.setTop (mkF m 27 #[.val (.int i0), .val (.int i1), .val (.int i2), .val (.int i3), .val (.int i4), .val (.int (1 : Int32)), .val (.ref b13), .val (.ref b14), .unset, .unset, .unset, .unset, .unset, .unset] [(.int (1 : Int32))])) (fun t k => XS.iload X14.here hx rfl (hb hby at_25) rfl k) ?_
    refine own_by (B := T14.setTop (mkF m 42 #[.val (.int i0), .val (.int i1), .val (.int i2), .val (.int i3), .val (.int i4), .val (.int (1 : Int32)), .val (.ref b13), .val (.ref b14), .unset, .unset, .unset, .unset, .unset, .unset] [])) (fun t k => XS.ifYes X14.here hx rfl (pc0 := 27) (pc' := 42) rfl (hb hby at_27) rfl ((if0 _ _).trans (feq (by decide)).2) (by decide) (by decide) k) ?_
    refine own_by (B := T14.setTop (mkF m 44 #[.val (.int i0), .val (.int i1), .val (.int i2), .val (.int i3), .val (.int i4), .val (.int (1 : Int32)), .val (.ref b13), .val (.ref b14), .unset, .unset, .unset, .unset, .unset, .unset] [(.int (1 : Int32))])) (fun t k => XS.iload X14.here hx rfl (hb hby at_42) rfl k) ?_
    refine own_by (B := T14.setTop (mkF m 45 #[.val (.int i0), .val (.int i1), .val (.int i2), .val (.int i3), .val (.int i4), .val (.int (1 : Int32)), .val (.ref b13), .val (.ref b14), .unset, .unset, .unset, .unset, .unset, .unset] [(.int (1 : Int32)), (.int (1 : Int32))])) (fun t k => XS.iconst X14.here hx rfl (hb hby at_44) k) ?_
    refine own_by (B := T14.setTop (mkF m 48 #[.val (.int i0), .val (.int i1), .val (.int i2), .val (.int i3), .val (.int i4), .val (.int (1 : Int32)), .val (.ref b13), .val (.ref b14), .unset, .unset, .unset, .unset, .unset, .unset] [])) (fun t k => XS.icmpNo X14.here hx rfl (hb hby at_45) rfl (teq (by decide)).2 k) ?_
    refine own_by (B := T14.setTop (mkF m 49 #[.val (.int i0), .val (.int i1), .val (.int i2), .val (.int i3), .val (.int i4), .val (.int (1 : Int32)), .val (.ref b13), .val (.ref b14), .unset, .unset, .unset, .unset, .unset, .unset] [(.int (1 : Int32))])) (fun t k => XS.iconst X14.here hx rfl (hb hby at_48) k) ?_
    refine own_by (B := T14.setTop (mkF m 51 #[.val (.int i0), .val (.int i1), .val (.int i2), .val (.int i3), .val (.int i4), .val (.int (1 : Int32)), .val (.ref b13), .val (.ref b14), .unset, .unset, .unset, .unset, .unset, .unset] [(.int i4), (.int (1 : Int32))])) (fun t k => XS.iload X14.here hx rfl (hb hby at_49) rfl k) ?_
    refine own_by (B := T14.setTop (mkF m 52 #[.val (.int i0), .val (.int i1), .val (.int i2), .val (.int i3), .val (.int i4), .val (.int (1 : Int32)), .val (.ref b13), .val (.ref b14), .unset, .unset, .unset, .unset, .unset, .unset] [(.int i2), (.int i4), (.int (1 : Int32))])) (fun t k => XS.iloadN X14.here hx rfl (hb hby at_51) rfl k) ?_
    refine own_by (B := T14.setTop (mkF m 53 #[.val (.int i0), .val (.int i1), .val (.int i2), .val (.int i3), .val (.int i4), .val (.int (1 : Int32)), .val (.ref b13), .val (.ref b14), .unset, .unset, .unset, .unset, .unset, .unset] [(.int i3), (.int i2), (.int i4), (.int (1 : Int32))])) (fun t k => XS.iloadN X14.here hx rfl (hb hby at_52) rfl k) ?_
    obtain ⟨_, _, ⟨T15, L15, k15, n15⟩, -, X15, ⟨Lc15, hQ15, l15, y15, z15⟩, st15⟩ := Jvm.LawKit.callS X14 hx (y := (⟨"com/example/processes_as_trees/processesastrees/StateTupleHashCodePinLaw", "make", "(IIII)[I"⟩ : MethodName)) hown (mvT hZ (hw _ (List.mem_of_getElem? (i := 0) rfl))) (mvT hZ (hw _ (List.mem_of_getElem? (i := 1) rfl))) (mvT hZ (hw _ (List.mem_of_getElem? (i := 2) rfl))) (mvT hZ (hw _ (List.mem_of_getElem? (i := 3) rfl))) (by decide) (backOf (W := 0) (rmM1 l Z a0 hw [] i4 i2 i3 T14.heap n0 Zs) hZ (hw _ (List.mem_of_getElem? (i := 3) rfl)) (hw _ (List.mem_of_getElem? (i := 2) rfl)) (by decide) (by decide)) (g := (mkF m 53 #[.val (.int i0), .val (.int i1), .val (.int i2), .val (.int i3), .val (.int i4), .val (.int (1 : Int32)), .val (.ref b13), .val (.ref b14), .unset, .unset, .unset, .unset, .unset, .unset] [(.int i3), (.int i2), (.int i4), (.int (1 : Int32))])) rfl (by rw [hml]; rfl) (argsL := [(.int (1 : Int32)), (.int i4), (.int i2), (.int i3)]) (rest := []) (lenOf own_pd1 rfl) rfl (by show 2 * 0 + _ ≤ _; exact Nat.le_of_eq rfl) (hb hby at_53) (fun _ _ => ⟨rfl, rfl, (by decide : 2 + 1 ≤ _), (by decide : 2 + 1 ≤ _)⟩)
    dsimp only [Pt.U, Pt.locs, Pt.cells, Pt.slots] at X15 l15 y15 z15 st15 hQ15
    subst l15 y15 z15
    obtain ⟨rfl, Nq15, Kc15, f15, Vc15, hf15_0⟩ := hQ15
    have Nf := Fr.app Nf Nq15
    obtain ⟨b15, gq15⟩ : ∃ z, z = T14.heap.size := ⟨_, rfl⟩
    rw [← gq15] at Vc15 st15
    have ne_b13_b15 : b13 ≠ b15 := Nat.ne_of_lt (Nat.lt_of_lt_of_le V_b13.lt (Nat.le_of_eq gq15.symm))
    have ne_b14_b15 : b14 ≠ b15 := Nat.ne_of_lt (Nat.lt_of_lt_of_le V_b14.lt (Nat.le_of_eq gq15.symm))
    have g_b15 : n0 ≤ b15 := Nat.le_trans Zs (Nat.le_of_eq gq15.symm)
    have V_b13 := V_b13.keep Kc15 nin0
    have V_b14 := V_b14.keep Kc15 nin0
    have Zs := Nat.le_trans Zs Kc15.1
    have V_b15 := Vc15
    refine own_by (B := T15.setTop (mkF m 56 #[.val (.int i0), .val (.int i1), .val (.int i2), .val (.int i3), .val (.int i4), .val (.int (1 : Int32)), .val (.ref b13), .val (.ref b14), .unset, .unset, .unset, .unset, .unset, .unset] [(.ref b15)])) st15 ?_
    refine own_by (B := T15.setTop (mkF m 58 #[.val (.int i0), .val (.int i1), .val (.int i2), .val (.int i3), .val (.int i4), .val (.int (1 : Int32)), .val (.ref b13), .val (.ref b14), .val (.ref b15), .unset, .unset, .unset, .unset, .unset] [])) (fun t k => XS.astore X15.here hx rfl (hb hby at_56) rfl rfl (l' := #[.val (.int i0), .val (.int i1), .val (.int i2), .val (.int i3), .val (.int i4), .val (.int (1 : Int32)), .val (.ref b13), .val (.ref b14), .val (.ref b15), .unset, .unset, .unset, .unset, .unset]) rfl k) ?_
    refine own_by (B := T15.setTop (mkF m 90 #[.val (.int i0), .val (.int i1), .val (.int i2), .val (.int i3), .val (.int i4), .val (.int (1 : Int32)), .val (.ref b13), .val (.ref b14), .val (.ref b15), .unset, .unset, .unset, .unset, .unset] [])) (fun t k => XS.goto X15.here hx rfl (pc0 := 58) (pc' := 90) rfl (hb hby at_58) (by decide) (by decide) k) ?_
    refine own_by (B := T15.setTop (mkF m 92 #[.val (.int i0), .val (.int i1), .val (.int i2), .val (.int i3), .val (.int i4), .val (.int (1 : Int32)), .val (.ref b13), .val (.ref b14), .val (.ref b15), .unset, .unset, .unset, .unset, .unset] [(.int (1 : Int32))])) (fun t k => XS.iload X15.here hx rfl (hb hby at_90) rfl k) ?_
    refine own_by (B := T15.setTop (mkF m 93 #[.val (.int i0), .val (.int i1), .val (.int i2), .val (.int i3), .val (.int i4), .val (.int (1 : Int32)), .val (.ref b13), .val (.ref b14), .val (.ref b15), .unset, .unset, .unset, .unset, .unset] [(.int (1 : Int32)), (.int (1 : Int32))])) (fun t k => XS.iconst X15.here hx rfl (hb hby at_92) k) ?_
    refine own_by (B := T15.setTop (mkF m 96 #[.val (.int i0), .val (.int i1), .val (.int i2), .val (.int i3), .val (.int i4), .val (.int (1 : Int32)), .val (.ref b13), .val (.ref b14), .val (.ref b15), .unset, .unset, .unset, .unset, .unset] [])) (fun t k => XS.icmpNo X15.here hx rfl (hb hby at_93) rfl (teq (by decide)).2 k) ?_
    refine own_by (B := T15.setTop (mkF m 97 #[.val (.int i0), .val (.int i1), .val (.int i2), .val (.int i3), .val (.int i4), .val (.int (1 : Int32)), .val (.ref b13), .val (.ref b14), .val (.ref b15), .unset, .unset, .unset, .unset, .unset] [(.int i1)])) (fun t k => XS.iloadN X15.here hx rfl (hb hby at_96) rfl k) ?_
    refine own_by (B := T15.setTop (mkF m 99 #[.val (.int i0), .val (.int i1), .val (.int i2), .val (.int i3), .val (.int i4), .val (.int (1 : Int32)), .val (.ref b13), .val (.ref b14), .val (.ref b15), .val (.int i1), .unset, .unset, .unset, .unset] [])) (fun t k => XS.istore X15.here hx rfl (hb hby at_97) rfl (l' := #[.val (.int i0), .val (.int i1), .val (.int i2), .val (.int i3), .val (.int i4), .val (.int (1 : Int32)), .val (.ref b13), .val (.ref b14), .val (.ref b15), .val (.int i1), .unset, .unset, .unset, .unset]) rfl k) ?_
    refine own_by (B := T15.setTop (mkF m 117 #[.val (.int i0), .val (.int i1), .val (.int i2), .val (.int i3), .val (.int i4), .val (.int (1 : Int32)), .val (.ref b13), .val (.ref b14), .val (.ref b15), .val (.int i1), .unset, .unset, .unset, .unset] [])) (fun t k => XS.goto X15.here hx rfl (pc0 := 99) (pc' := 117) rfl (hb hby at_99) (by decide) (by decide) k) ?_
    refine own_by (B := T15.setTop (mkF m 119 #[.val (.int i0), .val (.int i1), .val (.int i2), .val (.int i3), .val (.int i4), .val (.int (1 : Int32)), .val (.ref b13), .val (.ref b14), .val (.ref b15), .val (.int i1), .unset, .unset, .unset, .unset] [(.int (1 : Int32))])) (fun t k => XS.iload X15.here hx rfl (hb hby at_117) rfl k) ?_
    refine own_by (B := T15.setTop (mkF m 122 #[.val (.int i0), .val (.int i1), .val (.int i2), .val (.int i3), .val (.int i4), .val (.int (1 : Int32)), .val (.ref b13), .val (.ref b14), .val (.ref b15), .val (.int i1), .unset, .unset, .unset, .unset] [])) (fun t k => XS.ifNo X15.here hx rfl (hb hby at_119) rfl ((if0 _ _).trans (feq (by decide)).1) k) ?_
    refine own_by (B := T15.setTop (mkF m 124 #[.val (.int i0), .val (.int i1), .val (.int i2), .val (.int i3), .val (.int i4), .val (.int (1 : Int32)), .val (.ref b13), .val (.ref b14), .val (.ref b15), .val (.int i1), .unset, .unset, .unset, .unset] [(.int i1)])) (fun t k => XS.iload X15.here hx rfl (hb hby at_122) rfl k) ?_
    refine own_by (B := T15.setTop (mkF m 126 #[.val (.int i0), .val (.int i1), .val (.int i2), .val (.int i3), .val (.int i4), .val (.int (1 : Int32)), .val (.ref b13), .val (.ref b14), .val (.ref b15), .val (.int i1), .unset, .unset, .unset, .unset] [(.int i4), (.int i1)])) (fun t k => XS.iload X15.here hx rfl (hb hby at_124) rfl k) ?_
    by_cases hc126 : i1 = i4
    · refine own_by (B := T15.setTop (mkF m 129 #[.val (.int i0), .val (.int i1), .val (.int i2), .val (.int i3), .val (.int i4), .val (.int (1 : Int32)), .val (.ref b13), .val (.ref b14), .val (.ref b15), .val (.int i1), .unset, .unset, .unset, .unset] [])) (fun t k => XS.icmpNo X15.here hx rfl (hb hby at_126) rfl (teq hc126).2 k) ?_
      refine own_by (B := T15.setTop (mkF m 130 #[.val (.int i0), .val (.int i1), .val (.int i2), .val (.int i3), .val (.int i4), .val (.int (1 : Int32)), .val (.ref b13), .val (.ref b14), .val (.ref b15), .val (.int i1), .unset, .unset, .unset, .unset] [(.int (1 : Int32))])) (fun t k => XS.iconst X15.here hx rfl (hb hby at_129) k) ?_
      refine own_by (B := T15.setTop (mkF m 134 #[.val (.int i0), .val (.int i1), .val (.int i2), .val (.int i3), .val (.int i4), .val (.int (1 : Int32)), .val (.ref b13), .val (.ref b14), .val (.ref b15), .val (.int i1), .unset, .unset, .unset, .unset] [(.int (1 : Int32))])) (fun t k => XS.goto X15.here hx rfl (pc0 := 130) (pc' := 134) rfl (hb hby at_130) (by decide) (by decide) k) ?_
      refine own_by (B := T15.setTop (mkF m 136 #[.val (.int i0), .val (.int i1), .val (.int i2), .val (.int i3), .val (.int i4), .val (.int (1 : Int32)), .val (.ref b13), .val (.ref b14), .val (.ref b15), .val (.int i1), .val (.int (1 : Int32)), .unset, .unset, .unset] [])) (fun t k => XS.istore X15.here hx rfl (hb hby at_134) rfl (l' := #[.val (.int i0), .val (.int i1), .val (.int i2), .val (.int i3), .val (.int i4), .val (.int (1 : Int32)), .val (.ref b13), .val (.ref b14), .val (.ref b15), .val (.int i1), .val (.int (1 : Int32)), .unset, .unset, .unset]) rfl k) ?_
      obtain ⟨T16, h16, X16, e16, E16, A16, D16, -, st16⟩ := newO X15 hx hZ hown (hw _ (List.mem_of_getElem? (i := 5) rfl)) (hw _ (List.mem_of_getElem? (i := 6) rfl)) (hw _ (List.mem_of_getElem? (i := 7) rfl)) rfl (g := (mkF m 136 #[.val (.int i0), .val (.int i1), .val (.int i2), .val (.int i3), .val (.int i4), .val (.int (1 : Int32)), .val (.ref b13), .val (.ref b14), .val (.ref b15), .val (.int i1), .val (.int (1 : Int32)), .unset, .unset, .unset] [])) rfl (hb hby at_136) (by decide) (by decide)
      obtain ⟨b16, gq16⟩ : ∃ z, z = T15.heap.size := ⟨_, rfl⟩
      rw [← gq16] at A16 D16 st16
      have ne_b13_b16 : b13 ≠ b16 := Nat.ne_of_lt (Nat.lt_of_lt_of_le V_b13.lt (Nat.le_of_eq gq16.symm))
      have ne_b14_b16 : b14 ≠ b16 := Nat.ne_of_lt (Nat.lt_of_lt_of_le V_b14.lt (Nat.le_of_eq gq16.symm))
      have ne_b15_b16 : b15 ≠ b16 := Nat.ne_of_lt (Nat.lt_of_lt_of_le V_b15.lt (Nat.le_of_eq gq16.symm))
      have g_b16 : n0 ≤ b16 := Nat.le_trans Zs (Nat.le_of_eq gq16.symm)
      have V_b13 := V_b13.ext E16
      have V_b14 := V_b14.ext E16
      have V_b15 := V_b15.ext E16
      have Zs := Nat.le_trans Zs E16.1
      have E_b16 := A16
      have F_states_b16 : Fld Z h16 b16 "com/example/processes_as_trees/processesastrees/StateTuple" "states" "[I" .null := D16 (Or.inr (hw _ (List.mem_of_getElem? (i := 20) rfl))) (ty := (.array .int)) (by decide)
      refine own_by (B := T16.setTop (mkF m 139 #[.val (.int i0), .val (.int i1), .val (.int i2), .val (.int i3), .val (.int i4), .val (.int (1 : Int32)), .val (.ref b13), .val (.ref b14), .val (.ref b15), .val (.int i1), .val (.int (1 : Int32)), .unset, .unset, .unset] [(.ref b16)])) st16 ?_
      refine own_by (B := T16.setTop (mkF m 140 #[.val (.int i0), .val (.int i1), .val (.int i2), .val (.int i3), .val (.int i4), .val (.int (1 : Int32)), .val (.ref b13), .val (.ref b14), .val (.ref b15), .val (.int i1), .val (.int (1 : Int32)), .unset, .unset, .unset] [(.ref b16), (.ref b16)])) (fun t k => XS.dup X16.here hx rfl (hb hby at_139) rfl rfl k) ?_
      refine own_by (B := T16.setTop (mkF m 142 #[.val (.int i0), .val (.int i1), .val (.int i2), .val (.int i3), .val (.int i4), .val (.int (1 : Int32)), .val (.ref b13), .val (.ref b14), .val (.ref b15), .val (.int i1), .val (.int (1 : Int32)), .unset, .unset, .unset] [(.ref b13), (.ref b16), (.ref b16)])) (fun t k => XS.aload X16.here hx rfl (hb hby at_140) rfl rfl k) ?_
      obtain ⟨_, _, ⟨T17, L17, k17, n17⟩, -, X17, ⟨Lc17, hQ17, l17, y17, z17⟩, st17⟩ := X16.specialBack hx (y := (⟨"com/example/processes_as_trees/processesastrees/StateTuple", "<init>", "([I)V"⟩ : MethodName)) rfl hown (mvT hZ (hw _ (List.mem_of_getElem? (i := 8) rfl))) (mvT hZ (hw _ (List.mem_of_getElem? (i := 9) rfl))) (mvT hZ (hw _ (List.mem_of_getElem? (i := 10) rfl))) (by decide) (backOf (W := 1) (rmI l Z a0 hw [] b16 b13 h16 n0 Zs E_b16 F_states_b16 g_b16) hZ (hw _ (List.mem_of_getElem? (i := 10) rfl)) (hw _ (List.mem_of_getElem? (i := 7) rfl)) (by decide) (by decide)) (g := (mkF m 142 #[.val (.int i0), .val (.int i1), .val (.int i2), .val (.int i3), .val (.int i4), .val (.int (1 : Int32)), .val (.ref b13), .val (.ref b14), .val (.ref b15), .val (.int i1), .val (.int (1 : Int32)), .unset, .unset, .unset] [(.ref b13), (.ref b16), (.ref b16)])) rfl (by rw [hml]; rfl) (Steps.refl _) (a := b16) (argsL := [(.ref b13)]) (rest := [(.ref b16)]) (lenOf own_pd2 rfl) rfl (by show 2 * 0 + _ ≤ _; exact Nat.le_of_eq rfl) (hb hby at_142) (fun _ _ => ⟨rfl, e16, (by decide : 4 + 0 ≤ _), (by decide : 4 + 0 ≤ _)⟩)
      dsimp only [Pt.U, Pt.locs, Pt.cells, Pt.slots] at X17 l17 y17 z17 st17 hQ17
      subst l17 y17 z17
      obtain ⟨rfl, Nq17, Kc17, Fc17⟩ := hQ17
      have Nf := Fr.app Nf Nq17
      have V_b13 := V_b13.keep Kc17 (ninS ne_b13_b16 nin0)
      have V_b14 := V_b14.keep Kc17 (ninS ne_b14_b16 nin0)
      have V_b15 := V_b15.keep Kc17 (ninS ne_b15_b16 nin0)
      have E_b16 := E_b16.keep Kc17
      have Zs := Nat.le_trans Zs Kc17.1
      have F_states_b16 := Fc17
      refine own_by (B := T17.setTop (mkF m 145 #[.val (.int i0), .val (.int i1), .val (.int i2), .val (.int i3), .val (.int i4), .val (.int (1 : Int32)), .val (.ref b13), .val (.ref b14), .val (.ref b15), .val (.int i1), .val (.int (1 : Int32)), .unset, .unset, .unset] [(.ref b16)])) (fun t k => st17.trans k) ?_
      obtain ⟨cq18, kq18, q18a, q18b, q18c⟩ := isOf hZ rfl E_b16
      obtain ⟨_, _, ⟨T18, L18, k18, n18⟩, -, X18, ⟨Lc18, hQ18, l18, y18, z18⟩, st18⟩ := X17.virtualBack hx (y := (⟨"com/example/processes_as_trees/processesastrees/StateTuple", "hashCode", "()I"⟩ : MethodName)) (z := (⟨"com/example/processes_as_trees/processesastrees/StateTuple", "hashCode", "()I"⟩ : MethodName)) hown (mvT hZ (hw _ (List.mem_of_getElem? (i := 21) rfl))) (mvT hZ (hw _ (List.mem_of_getElem? (i := 22) rfl))) (notFace_of_selects (args := #[]) (mvT hZ (hw _ (List.mem_of_getElem? (i := 24) rfl)))) (mvT hZ (hw _ (List.mem_of_getElem? (i := 24) rfl))) (mvT hZ (hw _ (List.mem_of_getElem? (i := 23) rfl))) (by decide) (backOf (W := 0) (rmH1 l Z a0 hw [] b16 b13 f13 i1 T17.heap n0 Zs F_states_b16 V_b13 hf13_0) hZ (hw _ (List.mem_of_getElem? (i := 25) rfl)) (hw _ (List.mem_of_getElem? (i := 7) rfl)) (by decide) (by decide)) q18a q18c (g := (mkF m 145 #[.val (.int i0), .val (.int i1), .val (.int i2), .val (.int i3), .val (.int i4), .val (.int (1 : Int32)), .val (.ref b13), .val (.ref b14), .val (.ref b15), .val (.int i1), .val (.int (1 : Int32)), .unset, .unset, .unset] [(.ref b16)])) rfl (by rw [hml]; rfl) (Steps.refl _) (argsL := []) (rest := []) (lenOf own_pd3 rfl) rfl (by show 2 * 0 + _ ≤ _; exact Nat.le_of_eq rfl) (hb hby at_145) (fun _ _ => ⟨rfl, rfl, (by decide : 4 + 0 ≤ _), (by decide : 4 + 0 ≤ _)⟩)
      dsimp only [Pt.U, Pt.locs, Pt.cells, Pt.slots] at X18 l18 y18 z18 st18 hQ18
      subst l18 y18 z18
      obtain ⟨rfl, Nq18, hp18⟩ := hQ18
      have Nf := Fr.app Nf Nq18
      have ec18 : T18.heap = T17.heap := hp18
      refine own_by (B := T18.setTop (mkF m 148 #[.val (.int i0), .val (.int i1), .val (.int i2), .val (.int i3), .val (.int i4), .val (.int (1 : Int32)), .val (.ref b13), .val (.ref b14), .val (.ref b15), .val (.int i1), .val (.int (1 : Int32)), .unset, .unset, .unset] [(.int (own_fin (own_mix (1 : Int32) i1)))])) (fun t k => st18.trans k) ?_
      refine own_by (B := T18.setTop (mkF m 150 #[.val (.int i0), .val (.int i1), .val (.int i2), .val (.int i3), .val (.int i4), .val (.int (1 : Int32)), .val (.ref b13), .val (.ref b14), .val (.ref b15), .val (.int i1), .val (.int (1 : Int32)), .val (.int (own_fin (own_mix (1 : Int32) i1))), .unset, .unset] [])) (fun t k => XS.istore X18.here hx rfl (hb hby at_148) rfl (l' := #[.val (.int i0), .val (.int i1), .val (.int i2), .val (.int i3), .val (.int i4), .val (.int (1 : Int32)), .val (.ref b13), .val (.ref b14), .val (.ref b15), .val (.int i1), .val (.int (1 : Int32)), .val (.int (own_fin (own_mix (1 : Int32) i1))), .unset, .unset]) rfl k) ?_
      obtain ⟨T19, h19, X19, e19, E19, A19, D19, -, st19⟩ := newO X18 hx hZ hown (hw _ (List.mem_of_getElem? (i := 5) rfl)) (hw _ (List.mem_of_getElem? (i := 6) rfl)) (hw _ (List.mem_of_getElem? (i := 7) rfl)) ec18 (g := (mkF m 150 #[.val (.int i0), .val (.int i1), .val (.int i2), .val (.int i3), .val (.int i4), .val (.int (1 : Int32)), .val (.ref b13), .val (.ref b14), .val (.ref b15), .val (.int i1), .val (.int (1 : Int32)), .val (.int (own_fin (own_mix (1 : Int32) i1))), .unset, .unset] [])) rfl (hb hby at_150) (by decide) (by decide)
      obtain ⟨b19, gq19⟩ : ∃ z, z = T17.heap.size := ⟨_, rfl⟩
      rw [← gq19] at A19 D19 st19
      have ne_b13_b19 : b13 ≠ b19 := Nat.ne_of_lt (Nat.lt_of_lt_of_le V_b13.lt (Nat.le_of_eq gq19.symm))
      have ne_b14_b19 : b14 ≠ b19 := Nat.ne_of_lt (Nat.lt_of_lt_of_le V_b14.lt (Nat.le_of_eq gq19.symm))
      have ne_b15_b19 : b15 ≠ b19 := Nat.ne_of_lt (Nat.lt_of_lt_of_le V_b15.lt (Nat.le_of_eq gq19.symm))
      have ne_b16_b19 : b16 ≠ b19 := Nat.ne_of_lt (Nat.lt_of_lt_of_le E_b16.lt (Nat.le_of_eq gq19.symm))
      have g_b19 : n0 ≤ b19 := Nat.le_trans Zs (Nat.le_of_eq gq19.symm)
      have V_b13 := V_b13.ext E19
      have V_b14 := V_b14.ext E19
      have V_b15 := V_b15.ext E19
      have E_b16 := E_b16.ext E19
      have F_states_b16 := F_states_b16.ext E19
      have Zs := Nat.le_trans Zs E19.1
      have E_b19 := A19
      have F_states_b19 : Fld Z h19 b19 "com/example/processes_as_trees/processesastrees/StateTuple" "states" "[I" .null := D19 (Or.inr (hw _ (List.mem_of_getElem? (i := 20) rfl))) (ty := (.array .int)) (by decide)
      refine own_by (B := T19.setTop (mkF m 153 #[.val (.int i0), .val (.int i1), .val (.int i2), .val (.int i3), .val (.int i4), .val (.int (1 : Int32)), .val (.ref b13), .val (.ref b14), .val (.ref b15), .val (.int i1), .val (.int (1 : Int32)), .val (.int (own_fin (own_mix (1 : Int32) i1))), .unset, .unset] [(.ref b19)])) st19 ?_
      refine own_by (B := T19.setTop (mkF m 154 #[.val (.int i0), .val (.int i1), .val (.int i2), .val (.int i3), .val (.int i4), .val (.int (1 : Int32)), .val (.ref b13), .val (.ref b14), .val (.ref b15), .val (.int i1), .val (.int (1 : Int32)), .val (.int (own_fin (own_mix (1 : Int32) i1))), .unset, .unset] [(.ref b19), (.ref b19)])) (fun t k => XS.dup X19.here hx rfl (hb hby at_153) rfl rfl k) ?_
      refine own_by (B := T19.setTop (mkF m 156 #[.val (.int i0), .val (.int i1), .val (.int i2), .val (.int i3), .val (.int i4), .val (.int (1 : Int32)), .val (.ref b13), .val (.ref b14), .val (.ref b15), .val (.int i1), .val (.int (1 : Int32)), .val (.int (own_fin (own_mix (1 : Int32) i1))), .unset, .unset] [(.ref b14), (.ref b19), (.ref b19)])) (fun t k => XS.aload X19.here hx rfl (hb hby at_154) rfl rfl k) ?_
      obtain ⟨_, _, ⟨T20, L20, k20, n20⟩, -, X20, ⟨Lc20, hQ20, l20, y20, z20⟩, st20⟩ := X19.specialBack hx (y := (⟨"com/example/processes_as_trees/processesastrees/StateTuple", "<init>", "([I)V"⟩ : MethodName)) rfl hown (mvT hZ (hw _ (List.mem_of_getElem? (i := 8) rfl))) (mvT hZ (hw _ (List.mem_of_getElem? (i := 9) rfl))) (mvT hZ (hw _ (List.mem_of_getElem? (i := 10) rfl))) (by decide) (backOf (W := 1) (rmI l Z a0 hw [] b19 b14 h19 n0 Zs E_b19 F_states_b19 g_b19) hZ (hw _ (List.mem_of_getElem? (i := 10) rfl)) (hw _ (List.mem_of_getElem? (i := 7) rfl)) (by decide) (by decide)) (g := (mkF m 156 #[.val (.int i0), .val (.int i1), .val (.int i2), .val (.int i3), .val (.int i4), .val (.int (1 : Int32)), .val (.ref b13), .val (.ref b14), .val (.ref b15), .val (.int i1), .val (.int (1 : Int32)), .val (.int (own_fin (own_mix (1 : Int32) i1))), .unset, .unset] [(.ref b14), (.ref b19), (.ref b19)])) rfl (by rw [hml]; rfl) (Steps.refl _) (a := b19) (argsL := [(.ref b14)]) (rest := [(.ref b19)]) (lenOf own_pd2 rfl) rfl (by show 2 * 0 + _ ≤ _; exact Nat.le_of_eq rfl) (hb hby at_156) (fun _ _ => ⟨rfl, e19, (by decide : 5 + 0 ≤ _), (by decide : 5 + 0 ≤ _)⟩)
      dsimp only [Pt.U, Pt.locs, Pt.cells, Pt.slots] at X20 l20 y20 z20 st20 hQ20
      subst l20 y20 z20
      obtain ⟨rfl, Nq20, Kc20, Fc20⟩ := hQ20
      have Nf := Fr.app Nf Nq20
      have V_b13 := V_b13.keep Kc20 (ninS ne_b13_b19 nin0)
      have V_b14 := V_b14.keep Kc20 (ninS ne_b14_b19 nin0)
      have V_b15 := V_b15.keep Kc20 (ninS ne_b15_b19 nin0)
      have E_b16 := E_b16.keep Kc20
      have F_states_b16 := F_states_b16.keep Kc20 (ninS ne_b16_b19 nin0)
      have E_b19 := E_b19.keep Kc20
      have Zs := Nat.le_trans Zs Kc20.1
      have F_states_b19 := Fc20
      refine own_by (B := T20.setTop (mkF m 159 #[.val (.int i0), .val (.int i1), .val (.int i2), .val (.int i3), .val (.int i4), .val (.int (1 : Int32)), .val (.ref b13), .val (.ref b14), .val (.ref b15), .val (.int i1), .val (.int (1 : Int32)), .val (.int (own_fin (own_mix (1 : Int32) i1))), .unset, .unset] [(.ref b19)])) (fun t k => st20.trans k) ?_
      obtain ⟨cq21, kq21, q21a, q21b, q21c⟩ := isOf hZ rfl E_b19
      obtain ⟨_, _, ⟨T21, L21, k21, n21⟩, -, X21, ⟨Lc21, hQ21, l21, y21, z21⟩, st21⟩ := X20.virtualBack hx (y := (⟨"com/example/processes_as_trees/processesastrees/StateTuple", "hashCode", "()I"⟩ : MethodName)) (z := (⟨"com/example/processes_as_trees/processesastrees/StateTuple", "hashCode", "()I"⟩ : MethodName)) hown (mvT hZ (hw _ (List.mem_of_getElem? (i := 21) rfl))) (mvT hZ (hw _ (List.mem_of_getElem? (i := 22) rfl))) (notFace_of_selects (args := #[]) (mvT hZ (hw _ (List.mem_of_getElem? (i := 24) rfl)))) (mvT hZ (hw _ (List.mem_of_getElem? (i := 24) rfl))) (mvT hZ (hw _ (List.mem_of_getElem? (i := 23) rfl))) (by decide) (backOf (W := 0) (rmH1 l Z a0 hw [] b19 b14 f14 i1 T20.heap n0 Zs F_states_b19 V_b14 hf14_0) hZ (hw _ (List.mem_of_getElem? (i := 25) rfl)) (hw _ (List.mem_of_getElem? (i := 7) rfl)) (by decide) (by decide)) q21a q21c (g := (mkF m 159 #[.val (.int i0), .val (.int i1), .val (.int i2), .val (.int i3), .val (.int i4), .val (.int (1 : Int32)), .val (.ref b13), .val (.ref b14), .val (.ref b15), .val (.int i1), .val (.int (1 : Int32)), .val (.int (own_fin (own_mix (1 : Int32) i1))), .unset, .unset] [(.ref b19)])) rfl (by rw [hml]; rfl) (Steps.refl _) (argsL := []) (rest := []) (lenOf own_pd3 rfl) rfl (by show 2 * 0 + _ ≤ _; exact Nat.le_of_eq rfl) (hb hby at_159) (fun _ _ => ⟨rfl, rfl, (by decide : 5 + 0 ≤ _), (by decide : 5 + 0 ≤ _)⟩)
      dsimp only [Pt.U, Pt.locs, Pt.cells, Pt.slots] at X21 l21 y21 z21 st21 hQ21
      subst l21 y21 z21
      obtain ⟨rfl, Nq21, hp21⟩ := hQ21
      have Nf := Fr.app Nf Nq21
      have ec21 : T21.heap = T20.heap := hp21
      refine own_by (B := T21.setTop (mkF m 162 #[.val (.int i0), .val (.int i1), .val (.int i2), .val (.int i3), .val (.int i4), .val (.int (1 : Int32)), .val (.ref b13), .val (.ref b14), .val (.ref b15), .val (.int i1), .val (.int (1 : Int32)), .val (.int (own_fin (own_mix (1 : Int32) i1))), .unset, .unset] [(.int (own_fin (own_mix (1 : Int32) i1)))])) (fun t k => st21.trans k) ?_
      refine own_by (B := T21.setTop (mkF m 164 #[.val (.int i0), .val (.int i1), .val (.int i2), .val (.int i3), .val (.int i4), .val (.int (1 : Int32)), .val (.ref b13), .val (.ref b14), .val (.ref b15), .val (.int i1), .val (.int (1 : Int32)), .val (.int (own_fin (own_mix (1 : Int32) i1))), .val (.int (own_fin (own_mix (1 : Int32) i1))), .unset] [])) (fun t k => XS.istore X21.here hx rfl (hb hby at_162) rfl (l' := #[.val (.int i0), .val (.int i1), .val (.int i2), .val (.int i3), .val (.int i4), .val (.int (1 : Int32)), .val (.ref b13), .val (.ref b14), .val (.ref b15), .val (.int i1), .val (.int (1 : Int32)), .val (.int (own_fin (own_mix (1 : Int32) i1))), .val (.int (own_fin (own_mix (1 : Int32) i1))), .unset]) rfl k) ?_
      obtain ⟨T22, h22, X22, e22, E22, A22, D22, -, st22⟩ := newO X21 hx hZ hown (hw _ (List.mem_of_getElem? (i := 5) rfl)) (hw _ (List.mem_of_getElem? (i := 6) rfl)) (hw _ (List.mem_of_getElem? (i := 7) rfl)) ec21 (g := (mkF m 164 #[.val (.int i0), .val (.int i1), .val (.int i2), .val (.int i3), .val (.int i4), .val (.int (1 : Int32)), .val (.ref b13), .val (.ref b14), .val (.ref b15), .val (.int i1), .val (.int (1 : Int32)), .val (.int (own_fin (own_mix (1 : Int32) i1))), .val (.int (own_fin (own_mix (1 : Int32) i1))), .unset] [])) rfl (hb hby at_164) (by decide) (by decide)
      obtain ⟨b22, gq22⟩ : ∃ z, z = T20.heap.size := ⟨_, rfl⟩
      rw [← gq22] at A22 D22 st22
      have ne_b13_b22 : b13 ≠ b22 := Nat.ne_of_lt (Nat.lt_of_lt_of_le V_b13.lt (Nat.le_of_eq gq22.symm))
      have ne_b14_b22 : b14 ≠ b22 := Nat.ne_of_lt (Nat.lt_of_lt_of_le V_b14.lt (Nat.le_of_eq gq22.symm))
      have ne_b15_b22 : b15 ≠ b22 := Nat.ne_of_lt (Nat.lt_of_lt_of_le V_b15.lt (Nat.le_of_eq gq22.symm))
      have ne_b16_b22 : b16 ≠ b22 := Nat.ne_of_lt (Nat.lt_of_lt_of_le E_b16.lt (Nat.le_of_eq gq22.symm))
      have ne_b19_b22 : b19 ≠ b22 := Nat.ne_of_lt (Nat.lt_of_lt_of_le E_b19.lt (Nat.le_of_eq gq22.symm))
      have g_b22 : n0 ≤ b22 := Nat.le_trans Zs (Nat.le_of_eq gq22.symm)
      have V_b13 := V_b13.ext E22
      have V_b14 := V_b14.ext E22
      have V_b15 := V_b15.ext E22
      have E_b16 := E_b16.ext E22
      have F_states_b16 := F_states_b16.ext E22
      have E_b19 := E_b19.ext E22
      have F_states_b19 := F_states_b19.ext E22
      have Zs := Nat.le_trans Zs E22.1
      have E_b22 := A22
      have F_states_b22 : Fld Z h22 b22 "com/example/processes_as_trees/processesastrees/StateTuple" "states" "[I" .null := D22 (Or.inr (hw _ (List.mem_of_getElem? (i := 20) rfl))) (ty := (.array .int)) (by decide)
      refine own_by (B := T22.setTop (mkF m 167 #[.val (.int i0), .val (.int i1), .val (.int i2), .val (.int i3), .val (.int i4), .val (.int (1 : Int32)), .val (.ref b13), .val (.ref b14), .val (.ref b15), .val (.int i1), .val (.int (1 : Int32)), .val (.int (own_fin (own_mix (1 : Int32) i1))), .val (.int (own_fin (own_mix (1 : Int32) i1))), .unset] [(.ref b22)])) st22 ?_
      refine own_by (B := T22.setTop (mkF m 168 #[.val (.int i0), .val (.int i1), .val (.int i2), .val (.int i3), .val (.int i4), .val (.int (1 : Int32)), .val (.ref b13), .val (.ref b14), .val (.ref b15), .val (.int i1), .val (.int (1 : Int32)), .val (.int (own_fin (own_mix (1 : Int32) i1))), .val (.int (own_fin (own_mix (1 : Int32) i1))), .unset] [(.ref b22), (.ref b22)])) (fun t k => XS.dup X22.here hx rfl (hb hby at_167) rfl rfl k) ?_
      refine own_by (B := T22.setTop (mkF m 170 #[.val (.int i0), .val (.int i1), .val (.int i2), .val (.int i3), .val (.int i4), .val (.int (1 : Int32)), .val (.ref b13), .val (.ref b14), .val (.ref b15), .val (.int i1), .val (.int (1 : Int32)), .val (.int (own_fin (own_mix (1 : Int32) i1))), .val (.int (own_fin (own_mix (1 : Int32) i1))), .unset] [(.ref b15), (.ref b22), (.ref b22)])) (fun t k => XS.aload X22.here hx rfl (hb hby at_168) rfl rfl k) ?_
      obtain ⟨_, _, ⟨T23, L23, k23, n23⟩, -, X23, ⟨Lc23, hQ23, l23, y23, z23⟩, st23⟩ := X22.specialBack hx (y := (⟨"com/example/processes_as_trees/processesastrees/StateTuple", "<init>", "([I)V"⟩ : MethodName)) rfl hown (mvT hZ (hw _ (List.mem_of_getElem? (i := 8) rfl))) (mvT hZ (hw _ (List.mem_of_getElem? (i := 9) rfl))) (mvT hZ (hw _ (List.mem_of_getElem? (i := 10) rfl))) (by decide) (backOf (W := 1) (rmI l Z a0 hw [] b22 b15 h22 n0 Zs E_b22 F_states_b22 g_b22) hZ (hw _ (List.mem_of_getElem? (i := 10) rfl)) (hw _ (List.mem_of_getElem? (i := 7) rfl)) (by decide) (by decide)) (g := (mkF m 170 #[.val (.int i0), .val (.int i1), .val (.int i2), .val (.int i3), .val (.int i4), .val (.int (1 : Int32)), .val (.ref b13), .val (.ref b14), .val (.ref b15), .val (.int i1), .val (.int (1 : Int32)), .val (.int (own_fin (own_mix (1 : Int32) i1))), .val (.int (own_fin (own_mix (1 : Int32) i1))), .unset] [(.ref b15), (.ref b22), (.ref b22)])) rfl (by rw [hml]; rfl) (Steps.refl _) (a := b22) (argsL := [(.ref b15)]) (rest := [(.ref b22)]) (lenOf own_pd2 rfl) rfl (by show 2 * 0 + _ ≤ _; exact Nat.le_of_eq rfl) (hb hby at_170) (fun _ _ => ⟨rfl, e22, (by decide : 6 + 0 ≤ _), (by decide : 6 + 0 ≤ _)⟩)
      dsimp only [Pt.U, Pt.locs, Pt.cells, Pt.slots] at X23 l23 y23 z23 st23 hQ23
      subst l23 y23 z23
      obtain ⟨rfl, Nq23, Kc23, Fc23⟩ := hQ23
      have Nf := Fr.app Nf Nq23
      have V_b13 := V_b13.keep Kc23 (ninS ne_b13_b22 nin0)
      have V_b14 := V_b14.keep Kc23 (ninS ne_b14_b22 nin0)
      have V_b15 := V_b15.keep Kc23 (ninS ne_b15_b22 nin0)
      have E_b16 := E_b16.keep Kc23
      have F_states_b16 := F_states_b16.keep Kc23 (ninS ne_b16_b22 nin0)
      have E_b19 := E_b19.keep Kc23
      have F_states_b19 := F_states_b19.keep Kc23 (ninS ne_b19_b22 nin0)
      have E_b22 := E_b22.keep Kc23
      have Zs := Nat.le_trans Zs Kc23.1
      have F_states_b22 := Fc23
      refine own_by (B := T23.setTop (mkF m 173 #[.val (.int i0), .val (.int i1), .val (.int i2), .val (.int i3), .val (.int i4), .val (.int (1 : Int32)), .val (.ref b13), .val (.ref b14), .val (.ref b15), .val (.int i1), .val (.int (1 : Int32)), .val (.int (own_fin (own_mix (1 : Int32) i1))), .val (.int (own_fin (own_mix (1 : Int32) i1))), .unset] [(.ref b22)])) (fun t k => st23.trans k) ?_
      obtain ⟨cq24, kq24, q24a, q24b, q24c⟩ := isOf hZ rfl E_b22
      obtain ⟨_, _, ⟨T24, L24, k24, n24⟩, -, X24, ⟨Lc24, hQ24, l24, y24, z24⟩, st24⟩ := X23.virtualBack hx (y := (⟨"com/example/processes_as_trees/processesastrees/StateTuple", "hashCode", "()I"⟩ : MethodName)) (z := (⟨"com/example/processes_as_trees/processesastrees/StateTuple", "hashCode", "()I"⟩ : MethodName)) hown (mvT hZ (hw _ (List.mem_of_getElem? (i := 21) rfl))) (mvT hZ (hw _ (List.mem_of_getElem? (i := 22) rfl))) (notFace_of_selects (args := #[]) (mvT hZ (hw _ (List.mem_of_getElem? (i := 24) rfl)))) (mvT hZ (hw _ (List.mem_of_getElem? (i := 24) rfl))) (mvT hZ (hw _ (List.mem_of_getElem? (i := 23) rfl))) (by decide) (backOf (W := 0) (rmH1 l Z a0 hw [] b22 b15 f15 i4 T23.heap n0 Zs F_states_b22 V_b15 hf15_0) hZ (hw _ (List.mem_of_getElem? (i := 25) rfl)) (hw _ (List.mem_of_getElem? (i := 7) rfl)) (by decide) (by decide)) q24a q24c (g := (mkF m 173 #[.val (.int i0), .val (.int i1), .val (.int i2), .val (.int i3), .val (.int i4), .val (.int (1 : Int32)), .val (.ref b13), .val (.ref b14), .val (.ref b15), .val (.int i1), .val (.int (1 : Int32)), .val (.int (own_fin (own_mix (1 : Int32) i1))), .val (.int (own_fin (own_mix (1 : Int32) i1))), .unset] [(.ref b22)])) rfl (by rw [hml]; rfl) (Steps.refl _) (argsL := []) (rest := []) (lenOf own_pd3 rfl) rfl (by show 2 * 0 + _ ≤ _; exact Nat.le_of_eq rfl) (hb hby at_173) (fun _ _ => ⟨rfl, rfl, (by decide : 6 + 0 ≤ _), (by decide : 6 + 0 ≤ _)⟩)
      dsimp only [Pt.U, Pt.locs, Pt.cells, Pt.slots] at X24 l24 y24 z24 st24 hQ24
      subst l24 y24 z24
      obtain ⟨rfl, Nq24, hp24⟩ := hQ24
      have Nf := Fr.app Nf Nq24
      have ec24 : T24.heap = T23.heap := hp24
      refine own_by (B := T24.setTop (mkF m 176 #[.val (.int i0), .val (.int i1), .val (.int i2), .val (.int i3), .val (.int i4), .val (.int (1 : Int32)), .val (.ref b13), .val (.ref b14), .val (.ref b15), .val (.int i1), .val (.int (1 : Int32)), .val (.int (own_fin (own_mix (1 : Int32) i1))), .val (.int (own_fin (own_mix (1 : Int32) i1))), .unset] [(.int (own_fin (own_mix (1 : Int32) i4)))])) (fun t k => st24.trans k) ?_
      refine own_by (B := T24.setTop (mkF m 178 #[.val (.int i0), .val (.int i1), .val (.int i2), .val (.int i3), .val (.int i4), .val (.int (1 : Int32)), .val (.ref b13), .val (.ref b14), .val (.ref b15), .val (.int i1), .val (.int (1 : Int32)), .val (.int (own_fin (own_mix (1 : Int32) i1))), .val (.int (own_fin (own_mix (1 : Int32) i1))), .val (.int (own_fin (own_mix (1 : Int32) i4)))] [])) (fun t k => XS.istore X24.here hx rfl (hb hby at_176) rfl (l' := #[.val (.int i0), .val (.int i1), .val (.int i2), .val (.int i3), .val (.int i4), .val (.int (1 : Int32)), .val (.ref b13), .val (.ref b14), .val (.ref b15), .val (.int i1), .val (.int (1 : Int32)), .val (.int (own_fin (own_mix (1 : Int32) i1))), .val (.int (own_fin (own_mix (1 : Int32) i1))), .val (.int (own_fin (own_mix (1 : Int32) i4)))]) rfl k) ?_
      refine own_by (B := T24.setTop (mkF m 180 #[.val (.int i0), .val (.int i1), .val (.int i2), .val (.int i3), .val (.int i4), .val (.int (1 : Int32)), .val (.ref b13), .val (.ref b14), .val (.ref b15), .val (.int i1), .val (.int (1 : Int32)), .val (.int (own_fin (own_mix (1 : Int32) i1))), .val (.int (own_fin (own_mix (1 : Int32) i1))), .val (.int (own_fin (own_mix (1 : Int32) i4)))] [(.int (own_fin (own_mix (1 : Int32) i1)))])) (fun t k => XS.iload X24.here hx rfl (hb hby at_178) rfl k) ?_
      refine own_by (B := T24.setTop (mkF m 182 #[.val (.int i0), .val (.int i1), .val (.int i2), .val (.int i3), .val (.int i4), .val (.int (1 : Int32)), .val (.ref b13), .val (.ref b14), .val (.ref b15), .val (.int i1), .val (.int (1 : Int32)), .val (.int (own_fin (own_mix (1 : Int32) i1))), .val (.int (own_fin (own_mix (1 : Int32) i1))), .val (.int (own_fin (own_mix (1 : Int32) i4)))] [(.int (own_fin (own_mix (1 : Int32) i1))), (.int (own_fin (own_mix (1 : Int32) i1)))])) (fun t k => XS.iload X24.here hx rfl (hb hby at_180) rfl k) ?_
      refine own_by (B := T24.setTop (mkF m 185 #[.val (.int i0), .val (.int i1), .val (.int i2), .val (.int i3), .val (.int i4), .val (.int (1 : Int32)), .val (.ref b13), .val (.ref b14), .val (.ref b15), .val (.int i1), .val (.int (1 : Int32)), .val (.int (own_fin (own_mix (1 : Int32) i1))), .val (.int (own_fin (own_mix (1 : Int32) i1))), .val (.int (own_fin (own_mix (1 : Int32) i4)))] [])) (fun t k => XS.icmpNo X24.here hx rfl (hb hby at_182) rfl (teq rfl).2 k) ?_
      refine own_by (B := T24.setTop (mkF m 187 #[.val (.int i0), .val (.int i1), .val (.int i2), .val (.int i3), .val (.int i4), .val (.int (1 : Int32)), .val (.ref b13), .val (.ref b14), .val (.ref b15), .val (.int i1), .val (.int (1 : Int32)), .val (.int (own_fin (own_mix (1 : Int32) i1))), .val (.int (own_fin (own_mix (1 : Int32) i1))), .val (.int (own_fin (own_mix (1 : Int32) i4)))] [(.int (own_fin (own_mix (1 : Int32) i1)))])) (fun t k => XS.iload X24.here hx rfl (hb hby at_185) rfl k) ?_
      refine own_by (B := T24.setTop (mkF m 189 #[.val (.int i0), .val (.int i1), .val (.int i2), .val (.int i3), .val (.int i4), .val (.int (1 : Int32)), .val (.ref b13), .val (.ref b14), .val (.ref b15), .val (.int i1), .val (.int (1 : Int32)), .val (.int (own_fin (own_mix (1 : Int32) i1))), .val (.int (own_fin (own_mix (1 : Int32) i1))), .val (.int (own_fin (own_mix (1 : Int32) i4)))] [(.int (own_fin (own_mix (1 : Int32) i4))), (.int (own_fin (own_mix (1 : Int32) i1)))])) (fun t k => XS.iload X24.here hx rfl (hb hby at_187) rfl k) ?_
      refine own_by (B := T24.setTop (mkF m 192 #[.val (.int i0), .val (.int i1), .val (.int i2), .val (.int i3), .val (.int i4), .val (.int (1 : Int32)), .val (.ref b13), .val (.ref b14), .val (.ref b15), .val (.int i1), .val (.int (1 : Int32)), .val (.int (own_fin (own_mix (1 : Int32) i1))), .val (.int (own_fin (own_mix (1 : Int32) i1))), .val (.int (own_fin (own_mix (1 : Int32) i4)))] [])) (fun t k => XS.icmpNo X24.here hx rfl (hb hby at_189) rfl (teq (by rw [hc126] : (own_fin (own_mix (1 : Int32) i1)) = (own_fin (own_mix (1 : Int32) i4)))).2 k) ?_
      refine own_by (B := T24.setTop (mkF m 193 #[.val (.int i0), .val (.int i1), .val (.int i2), .val (.int i3), .val (.int i4), .val (.int (1 : Int32)), .val (.ref b13), .val (.ref b14), .val (.ref b15), .val (.int i1), .val (.int (1 : Int32)), .val (.int (own_fin (own_mix (1 : Int32) i1))), .val (.int (own_fin (own_mix (1 : Int32) i1))), .val (.int (own_fin (own_mix (1 : Int32) i4)))] [(.int (1 : Int32))])) (fun t k => XS.iconst X24.here hx rfl (hb hby at_192) k) ?_
      refine own_by (B := T24.setTop (mkF m 197 #[.val (.int i0), .val (.int i1), .val (.int i2), .val (.int i3), .val (.int i4), .val (.int (1 : Int32)), .val (.ref b13), .val (.ref b14), .val (.ref b15), .val (.int i1), .val (.int (1 : Int32)), .val (.int (own_fin (own_mix (1 : Int32) i1))), .val (.int (own_fin (own_mix (1 : Int32) i1))), .val (.int (own_fin (own_mix (1 : Int32) i4)))] [(.int (1 : Int32))])) (fun t k => XS.goto X24.here hx rfl (pc0 := 193) (pc' := 197) rfl (hb hby at_193) (by decide) (by decide) k) ?_
      refine own_by (B := T24.setTop (mkF m 199 #[.val (.int i0), .val (.int i1), .val (.int i2), .val (.int i3), .val (.int i4), .val (.int (1 : Int32)), .val (.ref b13), .val (.ref b14), .val (.ref b15), .val (.int i1), .val (.int (1 : Int32)), .val (.int (own_fin (own_mix (1 : Int32) i1))), .val (.int (own_fin (own_mix (1 : Int32) i1))), .val (.int (own_fin (own_mix (1 : Int32) i4)))] [(.int (1 : Int32)), (.int (1 : Int32))])) (fun t k => XS.iload X24.here hx rfl (hb hby at_197) rfl k) ?_
      refine own_by (B := T24.setTop (mkF m 202 #[.val (.int i0), .val (.int i1), .val (.int i2), .val (.int i3), .val (.int i4), .val (.int (1 : Int32)), .val (.ref b13), .val (.ref b14), .val (.ref b15), .val (.int i1), .val (.int (1 : Int32)), .val (.int (own_fin (own_mix (1 : Int32) i1))), .val (.int (own_fin (own_mix (1 : Int32) i1))), .val (.int (own_fin (own_mix (1 : Int32) i4)))] [])) (fun t k => XS.icmpNo X24.here hx rfl (hb hby at_199) rfl (teq (by decide)).2 k) ?_
      refine own_by (B := T24.setTop (mkF m 203 #[.val (.int i0), .val (.int i1), .val (.int i2), .val (.int i3), .val (.int i4), .val (.int (1 : Int32)), .val (.ref b13), .val (.ref b14), .val (.ref b15), .val (.int i1), .val (.int (1 : Int32)), .val (.int (own_fin (own_mix (1 : Int32) i1))), .val (.int (own_fin (own_mix (1 : Int32) i1))), .val (.int (own_fin (own_mix (1 : Int32) i4)))] [(.int (1 : Int32))])) (fun t k => XS.iconst X24.here hx rfl (hb hby at_202) k) ?_
      refine own_by (B := T24.setTop (mkF m 207 #[.val (.int i0), .val (.int i1), .val (.int i2), .val (.int i3), .val (.int i4), .val (.int (1 : Int32)), .val (.ref b13), .val (.ref b14), .val (.ref b15), .val (.int i1), .val (.int (1 : Int32)), .val (.int (own_fin (own_mix (1 : Int32) i1))), .val (.int (own_fin (own_mix (1 : Int32) i1))), .val (.int (own_fin (own_mix (1 : Int32) i4)))] [(.int (1 : Int32))])) (fun t k => XS.goto X24.here hx rfl (pc0 := 203) (pc' := 207) rfl (hb hby at_203) (by decide) (by decide) k) ?_
      exact own_end X24 (v := some (.int (1 : Int32))) (fun h => by rw [Bd.returns] at h; cases h) (BodyLoose.notSynchronized Bd) (Q := (Q_rm0 Z i0 i1 i2 i3 i4 h0 n0)) (fun fs hr => retN X24 hx (t := .boolean) Bd.returns (by simp) (hb hby at_207) hr) (show (Q_rm0 Z i0 i1 i2 i3 i4 h0 n0) _ T24.heap _ from (by rw [ec24]; exact ⟨rfl, Nf⟩)) (by decide) (by decide)
    · refine own_by (B := T15.setTop (mkF m 133 #[.val (.int i0), .val (.int i1), .val (.int i2), .val (.int i3), .val (.int i4), .val (.int (1 : Int32)), .val (.ref b13), .val (.ref b14), .val (.ref b15), .val (.int i1), .unset, .unset, .unset, .unset] [])) (fun t k => XS.icmpYes X15.here hx rfl (pc0 := 126) (pc' := 133) rfl (hb hby at_126) rfl (feq hc126).2 (by decide) (by decide) k) ?_
      refine own_by (B := T15.setTop (mkF m 134 #[.val (.int i0), .val (.int i1), .val (.int i2), .val (.int i3), .val (.int i4), .val (.int (1 : Int32)), .val (.ref b13), .val (.ref b14), .val (.ref b15), .val (.int i1), .unset, .unset, .unset, .unset] [(.int (0 : Int32))])) (fun t k => XS.iconst X15.here hx rfl (hb hby at_133) k) ?_
      refine own_by (B := T15.setTop (mkF m 136 #[.val (.int i0), .val (.int i1), .val (.int i2), .val (.int i3), .val (.int i4), .val (.int (1 : Int32)), .val (.ref b13), .val (.ref b14), .val (.ref b15), .val (.int i1), .val (.int (0 : Int32)), .unset, .unset, .unset] [])) (fun t k => XS.istore X15.here hx rfl (hb hby at_134) rfl (l' := #[.val (.int i0), .val (.int i1), .val (.int i2), .val (.int i3), .val (.int i4), .val (.int (1 : Int32)), .val (.ref b13), .val (.ref b14), .val (.ref b15), .val (.int i1), .val (.int (0 : Int32)), .unset, .unset, .unset]) rfl k) ?_
      obtain ⟨T25, h25, X25, e25, E25, A25, D25, -, st25⟩ := newO X15 hx hZ hown (hw _ (List.mem_of_getElem? (i := 5) rfl)) (hw _ (List.mem_of_getElem? (i := 6) rfl)) (hw _ (List.mem_of_getElem? (i := 7) rfl)) rfl (g := (mkF m 136 #[.val (.int i0), .val (.int i1), .val (.int i2), .val (.int i3), .val (.int i4), .val (.int (1 : Int32)), .val (.ref b13), .val (.ref b14), .val (.ref b15), .val (.int i1), .val (.int (0 : Int32)), .unset, .unset, .unset] [])) rfl (hb hby at_136) (by decide) (by decide)
      obtain ⟨b25, gq25⟩ : ∃ z, z = T15.heap.size := ⟨_, rfl⟩
      rw [← gq25] at A25 D25 st25
      have ne_b13_b25 : b13 ≠ b25 := Nat.ne_of_lt (Nat.lt_of_lt_of_le V_b13.lt (Nat.le_of_eq gq25.symm))
      have ne_b14_b25 : b14 ≠ b25 := Nat.ne_of_lt (Nat.lt_of_lt_of_le V_b14.lt (Nat.le_of_eq gq25.symm))
      have ne_b15_b25 : b15 ≠ b25 := Nat.ne_of_lt (Nat.lt_of_lt_of_le V_b15.lt (Nat.le_of_eq gq25.symm))
      have g_b25 : n0 ≤ b25 := Nat.le_trans Zs (Nat.le_of_eq gq25.symm)
      have V_b13 := V_b13.ext E25
      have V_b14 := V_b14.ext E25
      have V_b15 := V_b15.ext E25
      have Zs := Nat.le_trans Zs E25.1
      have E_b25 := A25
      have F_states_b25 : Fld Z h25 b25 "com/example/processes_as_trees/processesastrees/StateTuple" "states" "[I" .null := D25 (Or.inr (hw _ (List.mem_of_getElem? (i := 20) rfl))) (ty := (.array .int)) (by decide)
      refine own_by (B := T25.setTop (mkF m 139 #[.val (.int i0), .val (.int i1), .val (.int i2), .val (.int i3), .val (.int i4), .val (.int (1 : Int32)), .val (.ref b13), .val (.ref b14), .val (.ref b15), .val (.int i1), .val (.int (0 : Int32)), .unset, .unset, .unset] [(.ref b25)])) st25 ?_
      refine own_by (B := T25.setTop (mkF m 140 #[.val (.int i0), .val (.int i1), .val (.int i2), .val (.int i3), .val (.int i4), .val (.int (1 : Int32)), .val (.ref b13), .val (.ref b14), .val (.ref b15), .val (.int i1), .val (.int (0 : Int32)), .unset, .unset, .unset] [(.ref b25), (.ref b25)])) (fun t k => XS.dup X25.here hx rfl (hb hby at_139) rfl rfl k) ?_
      refine own_by (B := T25.setTop (mkF m 142 #[.val (.int i0), .val (.int i1), .val (.int i2), .val (.int i3), .val (.int i4), .val (.int (1 : Int32)), .val (.ref b13), .val (.ref b14), .val (.ref b15), .val (.int i1), .val (.int (0 : Int32)), .unset, .unset, .unset] [(.ref b13), (.ref b25), (.ref b25)])) (fun t k => XS.aload X25.here hx rfl (hb hby at_140) rfl rfl k) ?_
      obtain ⟨_, _, ⟨T26, L26, k26, n26⟩, -, X26, ⟨Lc26, hQ26, l26, y26, z26⟩, st26⟩ := X25.specialBack hx (y := (⟨"com/example/processes_as_trees/processesastrees/StateTuple", "<init>", "([I)V"⟩ : MethodName)) rfl hown (mvT hZ (hw _ (List.mem_of_getElem? (i := 8) rfl))) (mvT hZ (hw _ (List.mem_of_getElem? (i := 9) rfl))) (mvT hZ (hw _ (List.mem_of_getElem? (i := 10) rfl))) (by decide) (backOf (W := 1) (rmI l Z a0 hw [] b25 b13 h25 n0 Zs E_b25 F_states_b25 g_b25) hZ (hw _ (List.mem_of_getElem? (i := 10) rfl)) (hw _ (List.mem_of_getElem? (i := 7) rfl)) (by decide) (by decide)) (g := (mkF m 142 #[.val (.int i0), .val (.int i1), .val (.int i2), .val (.int i3), .val (.int i4), .val (.int (1 : Int32)), .val (.ref b13), .val (.ref b14), .val (.ref b15), .val (.int i1), .val (.int (0 : Int32)), .unset, .unset, .unset] [(.ref b13), (.ref b25), (.ref b25)])) rfl (by rw [hml]; rfl) (Steps.refl _) (a := b25) (argsL := [(.ref b13)]) (rest := [(.ref b25)]) (lenOf own_pd2 rfl) rfl (by show 2 * 0 + _ ≤ _; exact Nat.le_of_eq rfl) (hb hby at_142) (fun _ _ => ⟨rfl, e25, (by decide : 4 + 0 ≤ _), (by decide : 4 + 0 ≤ _)⟩)
      dsimp only [Pt.U, Pt.locs, Pt.cells, Pt.slots] at X26 l26 y26 z26 st26 hQ26
      subst l26 y26 z26
      obtain ⟨rfl, Nq26, Kc26, Fc26⟩ := hQ26
      have Nf := Fr.app Nf Nq26
      have V_b13 := V_b13.keep Kc26 (ninS ne_b13_b25 nin0)
      have V_b14 := V_b14.keep Kc26 (ninS ne_b14_b25 nin0)
      have V_b15 := V_b15.keep Kc26 (ninS ne_b15_b25 nin0)
      have E_b25 := E_b25.keep Kc26
      have Zs := Nat.le_trans Zs Kc26.1
      have F_states_b25 := Fc26
      refine own_by (B := T26.setTop (mkF m 145 #[.val (.int i0), .val (.int i1), .val (.int i2), .val (.int i3), .val (.int i4), .val (.int (1 : Int32)), .val (.ref b13), .val (.ref b14), .val (.ref b15), .val (.int i1), .val (.int (0 : Int32)), .unset, .unset, .unset] [(.ref b25)])) (fun t k => st26.trans k) ?_
      obtain ⟨cq27, kq27, q27a, q27b, q27c⟩ := isOf hZ rfl E_b25
      obtain ⟨_, _, ⟨T27, L27, k27, n27⟩, -, X27, ⟨Lc27, hQ27, l27, y27, z27⟩, st27⟩ := X26.virtualBack hx (y := (⟨"com/example/processes_as_trees/processesastrees/StateTuple", "hashCode", "()I"⟩ : MethodName)) (z := (⟨"com/example/processes_as_trees/processesastrees/StateTuple", "hashCode", "()I"⟩ : MethodName)) hown (mvT hZ (hw _ (List.mem_of_getElem? (i := 21) rfl))) (mvT hZ (hw _ (List.mem_of_getElem? (i := 22) rfl))) (notFace_of_selects (args := #[]) (mvT hZ (hw _ (List.mem_of_getElem? (i := 24) rfl)))) (mvT hZ (hw _ (List.mem_of_getElem? (i := 24) rfl))) (mvT hZ (hw _ (List.mem_of_getElem? (i := 23) rfl))) (by decide) (backOf (W := 0) (rmH1 l Z a0 hw [] b25 b13 f13 i1 T26.heap n0 Zs F_states_b25 V_b13 hf13_0) hZ (hw _ (List.mem_of_getElem? (i := 25) rfl)) (hw _ (List.mem_of_getElem? (i := 7) rfl)) (by decide) (by decide)) q27a q27c (g := (mkF m 145 #[.val (.int i0), .val (.int i1), .val (.int i2), .val (.int i3), .val (.int i4), .val (.int (1 : Int32)), .val (.ref b13), .val (.ref b14), .val (.ref b15), .val (.int i1), .val (.int (0 : Int32)), .unset, .unset, .unset] [(.ref b25)])) rfl (by rw [hml]; rfl) (Steps.refl _) (argsL := []) (rest := []) (lenOf own_pd3 rfl) rfl (by show 2 * 0 + _ ≤ _; exact Nat.le_of_eq rfl) (hb hby at_145) (fun _ _ => ⟨rfl, rfl, (by decide : 4 + 0 ≤ _), (by decide : 4 + 0 ≤ _)⟩)
      dsimp only [Pt.U, Pt.locs, Pt.cells, Pt.slots] at X27 l27 y27 z27 st27 hQ27
      subst l27 y27 z27
      obtain ⟨rfl, Nq27, hp27⟩ := hQ27
      have Nf := Fr.app Nf Nq27
      have ec27 : T27.heap = T26.heap := hp27
      refine own_by (B := T27.setTop (mkF m 148 #[.val (.int i0), .val (.int i1), .val (.int i2), .val (.int i3), .val (.int i4), .val (.int (1 : Int32)), .val (.ref b13), .val (.ref b14), .val (.ref b15), .val (.int i1), .val (.int (0 : Int32)), .unset, .unset, .unset] [(.int (own_fin (own_mix (1 : Int32) i1)))])) (fun t k => st27.trans k) ?_
      refine own_by (B := T27.setTop (mkF m 150 #[.val (.int i0), .val (.int i1), .val (.int i2), .val (.int i3), .val (.int i4), .val (.int (1 : Int32)), .val (.ref b13), .val (.ref b14), .val (.ref b15), .val (.int i1), .val (.int (0 : Int32)), .val (.int (own_fin (own_mix (1 : Int32) i1))), .unset, .unset] [])) (fun t k => XS.istore X27.here hx rfl (hb hby at_148) rfl (l' := #[.val (.int i0), .val (.int i1), .val (.int i2), .val (.int i3), .val (.int i4), .val (.int (1 : Int32)), .val (.ref b13), .val (.ref b14), .val (.ref b15), .val (.int i1), .val (.int (0 : Int32)), .val (.int (own_fin (own_mix (1 : Int32) i1))), .unset, .unset]) rfl k) ?_
      obtain ⟨T28, h28, X28, e28, E28, A28, D28, -, st28⟩ := newO X27 hx hZ hown (hw _ (List.mem_of_getElem? (i := 5) rfl)) (hw _ (List.mem_of_getElem? (i := 6) rfl)) (hw _ (List.mem_of_getElem? (i := 7) rfl)) ec27 (g := (mkF m 150 #[.val (.int i0), .val (.int i1), .val (.int i2), .val (.int i3), .val (.int i4), .val (.int (1 : Int32)), .val (.ref b13), .val (.ref b14), .val (.ref b15), .val (.int i1), .val (.int (0 : Int32)), .val (.int (own_fin (own_mix (1 : Int32) i1))), .unset, .unset] [])) rfl (hb hby at_150) (by decide) (by decide)
      obtain ⟨b28, gq28⟩ : ∃ z, z = T26.heap.size := ⟨_, rfl⟩
      rw [← gq28] at A28 D28 st28
      have ne_b13_b28 : b13 ≠ b28 := Nat.ne_of_lt (Nat.lt_of_lt_of_le V_b13.lt (Nat.le_of_eq gq28.symm))
      have ne_b14_b28 : b14 ≠ b28 := Nat.ne_of_lt (Nat.lt_of_lt_of_le V_b14.lt (Nat.le_of_eq gq28.symm))
      have ne_b15_b28 : b15 ≠ b28 := Nat.ne_of_lt (Nat.lt_of_lt_of_le V_b15.lt (Nat.le_of_eq gq28.symm))
      have ne_b25_b28 : b25 ≠ b28 := Nat.ne_of_lt (Nat.lt_of_lt_of_le E_b25.lt (Nat.le_of_eq gq28.symm))
      have g_b28 : n0 ≤ b28 := Nat.le_trans Zs (Nat.le_of_eq gq28.symm)
      have V_b13 := V_b13.ext E28
      have V_b14 := V_b14.ext E28
      have V_b15 := V_b15.ext E28
      have E_b25 := E_b25.ext E28
      have F_states_b25 := F_states_b25.ext E28
      have Zs := Nat.le_trans Zs E28.1
      have E_b28 := A28
      have F_states_b28 : Fld Z h28 b28 "com/example/processes_as_trees/processesastrees/StateTuple" "states" "[I" .null := D28 (Or.inr (hw _ (List.mem_of_getElem? (i := 20) rfl))) (ty := (.array .int)) (by decide)
      refine own_by (B := T28.setTop (mkF m 153 #[.val (.int i0), .val (.int i1), .val (.int i2), .val (.int i3), .val (.int i4), .val (.int (1 : Int32)), .val (.ref b13), .val (.ref b14), .val (.ref b15), .val (.int i1), .val (.int (0 : Int32)), .val (.int (own_fin (own_mix (1 : Int32) i1))), .unset, .unset] [(.ref b28)])) st28 ?_
      refine own_by (B := T28.setTop (mkF m 154 #[.val (.int i0), .val (.int i1), .val (.int i2), .val (.int i3), .val (.int i4), .val (.int (1 : Int32)), .val (.ref b13), .val (.ref b14), .val (.ref b15), .val (.int i1), .val (.int (0 : Int32)), .val (.int (own_fin (own_mix (1 : Int32) i1))), .unset, .unset] [(.ref b28), (.ref b28)])) (fun t k => XS.dup X28.here hx rfl (hb hby at_153) rfl rfl k) ?_
      refine own_by (B := T28.setTop (mkF m 156 #[.val (.int i0), .val (.int i1), .val (.int i2), .val (.int i3), .val (.int i4), .val (.int (1 : Int32)), .val (.ref b13), .val (.ref b14), .val (.ref b15), .val (.int i1), .val (.int (0 : Int32)), .val (.int (own_fin (own_mix (1 : Int32) i1))), .unset, .unset] [(.ref b14), (.ref b28), (.ref b28)])) (fun t k => XS.aload X28.here hx rfl (hb hby at_154) rfl rfl k) ?_
      obtain ⟨_, _, ⟨T29, L29, k29, n29⟩, -, X29, ⟨Lc29, hQ29, l29, y29, z29⟩, st29⟩ := X28.specialBack hx (y := (⟨"com/example/processes_as_trees/processesastrees/StateTuple", "<init>", "([I)V"⟩ : MethodName)) rfl hown (mvT hZ (hw _ (List.mem_of_getElem? (i := 8) rfl))) (mvT hZ (hw _ (List.mem_of_getElem? (i := 9) rfl))) (mvT hZ (hw _ (List.mem_of_getElem? (i := 10) rfl))) (by decide) (backOf (W := 1) (rmI l Z a0 hw [] b28 b14 h28 n0 Zs E_b28 F_states_b28 g_b28) hZ (hw _ (List.mem_of_getElem? (i := 10) rfl)) (hw _ (List.mem_of_getElem? (i := 7) rfl)) (by decide) (by decide)) (g := (mkF m 156 #[.val (.int i0), .val (.int i1), .val (.int i2), .val (.int i3), .val (.int i4), .val (.int (1 : Int32)), .val (.ref b13), .val (.ref b14), .val (.ref b15), .val (.int i1), .val (.int (0 : Int32)), .val (.int (own_fin (own_mix (1 : Int32) i1))), .unset, .unset] [(.ref b14), (.ref b28), (.ref b28)])) rfl (by rw [hml]; rfl) (Steps.refl _) (a := b28) (argsL := [(.ref b14)]) (rest := [(.ref b28)]) (lenOf own_pd2 rfl) rfl (by show 2 * 0 + _ ≤ _; exact Nat.le_of_eq rfl) (hb hby at_156) (fun _ _ => ⟨rfl, e28, (by decide : 5 + 0 ≤ _), (by decide : 5 + 0 ≤ _)⟩)
      dsimp only [Pt.U, Pt.locs, Pt.cells, Pt.slots] at X29 l29 y29 z29 st29 hQ29
      subst l29 y29 z29
      obtain ⟨rfl, Nq29, Kc29, Fc29⟩ := hQ29
      have Nf := Fr.app Nf Nq29
      have V_b13 := V_b13.keep Kc29 (ninS ne_b13_b28 nin0)
      have V_b14 := V_b14.keep Kc29 (ninS ne_b14_b28 nin0)
      have V_b15 := V_b15.keep Kc29 (ninS ne_b15_b28 nin0)
      have E_b25 := E_b25.keep Kc29
      have F_states_b25 := F_states_b25.keep Kc29 (ninS ne_b25_b28 nin0)
      have E_b28 := E_b28.keep Kc29
      have Zs := Nat.le_trans Zs Kc29.1
      have F_states_b28 := Fc29
      refine own_by (B := T29.setTop (mkF m 159 #[.val (.int i0), .val (.int i1), .val (.int i2), .val (.int i3), .val (.int i4), .val (.int (1 : Int32)), .val (.ref b13), .val (.ref b14), .val (.ref b15), .val (.int i1), .val (.int (0 : Int32)), .val (.int (own_fin (own_mix (1 : Int32) i1))), .unset, .unset] [(.ref b28)])) (fun t k => st29.trans k) ?_
      obtain ⟨cq30, kq30, q30a, q30b, q30c⟩ := isOf hZ rfl E_b28
      obtain ⟨_, _, ⟨T30, L30, k30, n30⟩, -, X30, ⟨Lc30, hQ30, l30, y30, z30⟩, st30⟩ := X29.virtualBack hx (y := (⟨"com/example/processes_as_trees/processesastrees/StateTuple", "hashCode", "()I"⟩ : MethodName)) (z := (⟨"com/example/processes_as_trees/processesastrees/StateTuple", "hashCode", "()I"⟩ : MethodName)) hown (mvT hZ (hw _ (List.mem_of_getElem? (i := 21) rfl))) (mvT hZ (hw _ (List.mem_of_getElem? (i := 22) rfl))) (notFace_of_selects (args := #[]) (mvT hZ (hw _ (List.mem_of_getElem? (i := 24) rfl)))) (mvT hZ (hw _ (List.mem_of_getElem? (i := 24) rfl))) (mvT hZ (hw _ (List.mem_of_getElem? (i := 23) rfl))) (by decide) (backOf (W := 0) (rmH1 l Z a0 hw [] b28 b14 f14 i1 T29.heap n0 Zs F_states_b28 V_b14 hf14_0) hZ (hw _ (List.mem_of_getElem? (i := 25) rfl)) (hw _ (List.mem_of_getElem? (i := 7) rfl)) (by decide) (by decide)) q30a q30c (g := (mkF m 159 #[.val (.int i0), .val (.int i1), .val (.int i2), .val (.int i3), .val (.int i4), .val (.int (1 : Int32)), .val (.ref b13), .val (.ref b14), .val (.ref b15), .val (.int i1), .val (.int (0 : Int32)), .val (.int (own_fin (own_mix (1 : Int32) i1))), .unset, .unset] [(.ref b28)])) rfl (by rw [hml]; rfl) (Steps.refl _) (argsL := []) (rest := []) (lenOf own_pd3 rfl) rfl (by show 2 * 0 + _ ≤ _; exact Nat.le_of_eq rfl) (hb hby at_159) (fun _ _ => ⟨rfl, rfl, (by decide : 5 + 0 ≤ _), (by decide : 5 + 0 ≤ _)⟩)
      dsimp only [Pt.U, Pt.locs, Pt.cells, Pt.slots] at X30 l30 y30 z30 st30 hQ30
      subst l30 y30 z30
      obtain ⟨rfl, Nq30, hp30⟩ := hQ30
      have Nf := Fr.app Nf Nq30
      have ec30 : T30.heap = T29.heap := hp30
      refine own_by (B := T30.setTop (mkF m 162 #[.val (.int i0), .val (.int i1), .val (.int i2), .val (.int i3), .val (.int i4), .val (.int (1 : Int32)), .val (.ref b13), .val (.ref b14), .val (.ref b15), .val (.int i1), .val (.int (0 : Int32)), .val (.int (own_fin (own_mix (1 : Int32) i1))), .unset, .unset] [(.int (own_fin (own_mix (1 : Int32) i1)))])) (fun t k => st30.trans k) ?_
      refine own_by (B := T30.setTop (mkF m 164 #[.val (.int i0), .val (.int i1), .val (.int i2), .val (.int i3), .val (.int i4), .val (.int (1 : Int32)), .val (.ref b13), .val (.ref b14), .val (.ref b15), .val (.int i1), .val (.int (0 : Int32)), .val (.int (own_fin (own_mix (1 : Int32) i1))), .val (.int (own_fin (own_mix (1 : Int32) i1))), .unset] [])) (fun t k => XS.istore X30.here hx rfl (hb hby at_162) rfl (l' := #[.val (.int i0), .val (.int i1), .val (.int i2), .val (.int i3), .val (.int i4), .val (.int (1 : Int32)), .val (.ref b13), .val (.ref b14), .val (.ref b15), .val (.int i1), .val (.int (0 : Int32)), .val (.int (own_fin (own_mix (1 : Int32) i1))), .val (.int (own_fin (own_mix (1 : Int32) i1))), .unset]) rfl k) ?_
      obtain ⟨T31, h31, X31, e31, E31, A31, D31, -, st31⟩ := newO X30 hx hZ hown (hw _ (List.mem_of_getElem? (i := 5) rfl)) (hw _ (List.mem_of_getElem? (i := 6) rfl)) (hw _ (List.mem_of_getElem? (i := 7) rfl)) ec30 (g := (mkF m 164 #[.val (.int i0), .val (.int i1), .val (.int i2), .val (.int i3), .val (.int i4), .val (.int (1 : Int32)), .val (.ref b13), .val (.ref b14), .val (.ref b15), .val (.int i1), .val (.int (0 : Int32)), .val (.int (own_fin (own_mix (1 : Int32) i1))), .val (.int (own_fin (own_mix (1 : Int32) i1))), .unset] [])) rfl (hb hby at_164) (by decide) (by decide)
      obtain ⟨b31, gq31⟩ : ∃ z, z = T29.heap.size := ⟨_, rfl⟩
      rw [← gq31] at A31 D31 st31
      have ne_b13_b31 : b13 ≠ b31 := Nat.ne_of_lt (Nat.lt_of_lt_of_le V_b13.lt (Nat.le_of_eq gq31.symm))
      have ne_b14_b31 : b14 ≠ b31 := Nat.ne_of_lt (Nat.lt_of_lt_of_le V_b14.lt (Nat.le_of_eq gq31.symm))
      have ne_b15_b31 : b15 ≠ b31 := Nat.ne_of_lt (Nat.lt_of_lt_of_le V_b15.lt (Nat.le_of_eq gq31.symm))
      have ne_b25_b31 : b25 ≠ b31 := Nat.ne_of_lt (Nat.lt_of_lt_of_le E_b25.lt (Nat.le_of_eq gq31.symm))
      have ne_b28_b31 : b28 ≠ b31 := Nat.ne_of_lt (Nat.lt_of_lt_of_le E_b28.lt (Nat.le_of_eq gq31.symm))
      have g_b31 : n0 ≤ b31 := Nat.le_trans Zs (Nat.le_of_eq gq31.symm)
      have V_b13 := V_b13.ext E31
      have V_b14 := V_b14.ext E31
      have V_b15 := V_b15.ext E31
      have E_b25 := E_b25.ext E31
      have F_states_b25 := F_states_b25.ext E31
      have E_b28 := E_b28.ext E31
      have F_states_b28 := F_states_b28.ext E31
      have Zs := Nat.le_trans Zs E31.1
      have E_b31 := A31
      have F_states_b31 : Fld Z h31 b31 "com/example/processes_as_trees/processesastrees/StateTuple" "states" "[I" .null := D31 (Or.inr (hw _ (List.mem_of_getElem? (i := 20) rfl))) (ty := (.array .int)) (by decide)
      refine own_by (B := T31.setTop (mkF m 167 #[.val (.int i0), .val (.int i1), .val (.int i2), .val (.int i3), .val (.int i4), .val (.int (1 : Int32)), .val (.ref b13), .val (.ref b14), .val (.ref b15), .val (.int i1), .val (.int (0 : Int32)), .val (.int (own_fin (own_mix (1 : Int32) i1))), .val (.int (own_fin (own_mix (1 : Int32) i1))), .unset] [(.ref b31)])) st31 ?_
      refine own_by (B := T31.setTop (mkF m 168 #[.val (.int i0), .val (.int i1), .val (.int i2), .val (.int i3), .val (.int i4), .val (.int (1 : Int32)), .val (.ref b13), .val (.ref b14), .val (.ref b15), .val (.int i1), .val (.int (0 : Int32)), .val (.int (own_fin (own_mix (1 : Int32) i1))), .val (.int (own_fin (own_mix (1 : Int32) i1))), .unset] [(.ref b31), (.ref b31)])) (fun t k => XS.dup X31.here hx rfl (hb hby at_167) rfl rfl k) ?_
      refine own_by (B := T31.setTop (mkF m 170 #[.val (.int i0), .val (.int i1), .val (.int i2), .val (.int i3), .val (.int i4), .val (.int (1 : Int32)), .val (.ref b13), .val (.ref b14), .val (.ref b15), .val (.int i1), .val (.int (0 : Int32)), .val (.int (own_fin (own_mix (1 : Int32) i1))), .val (.int (own_fin (own_mix (1 : Int32) i1))), .unset] [(.ref b15), (.ref b31), (.ref b31)])) (fun t k => XS.aload X31.here hx rfl (hb hby at_168) rfl rfl k) ?_
      obtain ⟨_, _, ⟨T32, L32, k32, n32⟩, -, X32, ⟨Lc32, hQ32, l32, y32, z32⟩, st32⟩ := X31.specialBack hx (y := (⟨"com/example/processes_as_trees/processesastrees/StateTuple", "<init>", "([I)V"⟩ : MethodName)) rfl hown (mvT hZ (hw _ (List.mem_of_getElem? (i := 8) rfl))) (mvT hZ (hw _ (List.mem_of_getElem? (i := 9) rfl))) (mvT hZ (hw _ (List.mem_of_getElem? (i := 10) rfl))) (by decide) (backOf (W := 1) (rmI l Z a0 hw [] b31 b15 h31 n0 Zs E_b31 F_states_b31 g_b31) hZ (hw _ (List.mem_of_getElem? (i := 10) rfl)) (hw _ (List.mem_of_getElem? (i := 7) rfl)) (by decide) (by decide)) (g := (mkF m 170 #[.val (.int i0), .val (.int i1), .val (.int i2), .val (.int i3), .val (.int i4), .val (.int (1 : Int32)), .val (.ref b13), .val (.ref b14), .val (.ref b15), .val (.int i1), .val (.int (0 : Int32)), .val (.int (own_fin (own_mix (1 : Int32) i1))), .val (.int (own_fin (own_mix (1 : Int32) i1))), .unset] [(.ref b15), (.ref b31), (.ref b31)])) rfl (by rw [hml]; rfl) (Steps.refl _) (a := b31) (argsL := [(.ref b15)]) (rest := [(.ref b31)]) (lenOf own_pd2 rfl) rfl (by show 2 * 0 + _ ≤ _; exact Nat.le_of_eq rfl) (hb hby at_170) (fun _ _ => ⟨rfl, e31, (by decide : 6 + 0 ≤ _), (by decide : 6 + 0 ≤ _)⟩)
      dsimp only [Pt.U, Pt.locs, Pt.cells, Pt.slots] at X32 l32 y32 z32 st32 hQ32
      subst l32 y32 z32
      obtain ⟨rfl, Nq32, Kc32, Fc32⟩ := hQ32
      have Nf := Fr.app Nf Nq32
      have V_b13 := V_b13.keep Kc32 (ninS ne_b13_b31 nin0)
      have V_b14 := V_b14.keep Kc32 (ninS ne_b14_b31 nin0)
      have V_b15 := V_b15.keep Kc32 (ninS ne_b15_b31 nin0)
      have E_b25 := E_b25.keep Kc32
      have F_states_b25 := F_states_b25.keep Kc32 (ninS ne_b25_b31 nin0)
      have E_b28 := E_b28.keep Kc32
      have F_states_b28 := F_states_b28.keep Kc32 (ninS ne_b28_b31 nin0)
      have E_b31 := E_b31.keep Kc32
      have Zs := Nat.le_trans Zs Kc32.1
      have F_states_b31 := Fc32
      refine own_by (B := T32.setTop (mkF m 173 #[.val (.int i0), .val (.int i1), .val (.int i2), .val (.int i3), .val (.int i4), .val (.int (1 : Int32)), .val (.ref b13), .val (.ref b14), .val (.ref b15), .val (.int i1), .val (.int (0 : Int32)), .val (.int (own_fin (own_mix (1 : Int32) i1))), .val (.int (own_fin (own_mix (1 : Int32) i1))), .unset] [(.ref b31)])) (fun t k => st32.trans k) ?_
      obtain ⟨cq33, kq33, q33a, q33b, q33c⟩ := isOf hZ rfl E_b31
      obtain ⟨_, _, ⟨T33, L33, k33, n33⟩, -, X33, ⟨Lc33, hQ33, l33, y33, z33⟩, st33⟩ := X32.virtualBack hx (y := (⟨"com/example/processes_as_trees/processesastrees/StateTuple", "hashCode", "()I"⟩ : MethodName)) (z := (⟨"com/example/processes_as_trees/processesastrees/StateTuple", "hashCode", "()I"⟩ : MethodName)) hown (mvT hZ (hw _ (List.mem_of_getElem? (i := 21) rfl))) (mvT hZ (hw _ (List.mem_of_getElem? (i := 22) rfl))) (notFace_of_selects (args := #[]) (mvT hZ (hw _ (List.mem_of_getElem? (i := 24) rfl)))) (mvT hZ (hw _ (List.mem_of_getElem? (i := 24) rfl))) (mvT hZ (hw _ (List.mem_of_getElem? (i := 23) rfl))) (by decide) (backOf (W := 0) (rmH1 l Z a0 hw [] b31 b15 f15 i4 T32.heap n0 Zs F_states_b31 V_b15 hf15_0) hZ (hw _ (List.mem_of_getElem? (i := 25) rfl)) (hw _ (List.mem_of_getElem? (i := 7) rfl)) (by decide) (by decide)) q33a q33c (g := (mkF m 173 #[.val (.int i0), .val (.int i1), .val (.int i2), .val (.int i3), .val (.int i4), .val (.int (1 : Int32)), .val (.ref b13), .val (.ref b14), .val (.ref b15), .val (.int i1), .val (.int (0 : Int32)), .val (.int (own_fin (own_mix (1 : Int32) i1))), .val (.int (own_fin (own_mix (1 : Int32) i1))), .unset] [(.ref b31)])) rfl (by rw [hml]; rfl) (Steps.refl _) (argsL := []) (rest := []) (lenOf own_pd3 rfl) rfl (by show 2 * 0 + _ ≤ _; exact Nat.le_of_eq rfl) (hb hby at_173) (fun _ _ => ⟨rfl, rfl, (by decide : 6 + 0 ≤ _), (by decide : 6 + 0 ≤ _)⟩)
      dsimp only [Pt.U, Pt.locs, Pt.cells, Pt.slots] at X33 l33 y33 z33 st33 hQ33
      subst l33 y33 z33
      obtain ⟨rfl, Nq33, hp33⟩ := hQ33
      have Nf := Fr.app Nf Nq33
      have ec33 : T33.heap = T32.heap := hp33
      refine own_by (B := T33.setTop (mkF m 176 #[.val (.int i0), .val (.int i1), .val (.int i2), .val (.int i3), .val (.int i4), .val (.int (1 : Int32)), .val (.ref b13), .val (.ref b14), .val (.ref b15), .val (.int i1), .val (.int (0 : Int32)), .val (.int (own_fin (own_mix (1 : Int32) i1))), .val (.int (own_fin (own_mix (1 : Int32) i1))), .unset] [(.int (own_fin (own_mix (1 : Int32) i4)))])) (fun t k => st33.trans k) ?_
      refine own_by (B := T33.setTop (mkF m 178 #[.val (.int i0), .val (.int i1), .val (.int i2), .val (.int i3), .val (.int i4), .val (.int (1 : Int32)), .val (.ref b13), .val (.ref b14), .val (.ref b15), .val (.int i1), .val (.int (0 : Int32)), .val (.int (own_fin (own_mix (1 : Int32) i1))), .val (.int (own_fin (own_mix (1 : Int32) i1))), .val (.int (own_fin (own_mix (1 : Int32) i4)))] [])) (fun t k => XS.istore X33.here hx rfl (hb hby at_176) rfl (l' := #[.val (.int i0), .val (.int i1), .val (.int i2), .val (.int i3), .val (.int i4), .val (.int (1 : Int32)), .val (.ref b13), .val (.ref b14), .val (.ref b15), .val (.int i1), .val (.int (0 : Int32)), .val (.int (own_fin (own_mix (1 : Int32) i1))), .val (.int (own_fin (own_mix (1 : Int32) i1))), .val (.int (own_fin (own_mix (1 : Int32) i4)))]) rfl k) ?_
      refine own_by (B := T33.setTop (mkF m 180 #[.val (.int i0), .val (.int i1), .val (.int i2), .val (.int i3), .val (.int i4), .val (.int (1 : Int32)), .val (.ref b13), .val (.ref b14), .val (.ref b15), .val (.int i1), .val (.int (0 : Int32)), .val (.int (own_fin (own_mix (1 : Int32) i1))), .val (.int (own_fin (own_mix (1 : Int32) i1))), .val (.int (own_fin (own_mix (1 : Int32) i4)))] [(.int (own_fin (own_mix (1 : Int32) i1)))])) (fun t k => XS.iload X33.here hx rfl (hb hby at_178) rfl k) ?_
      refine own_by (B := T33.setTop (mkF m 182 #[.val (.int i0), .val (.int i1), .val (.int i2), .val (.int i3), .val (.int i4), .val (.int (1 : Int32)), .val (.ref b13), .val (.ref b14), .val (.ref b15), .val (.int i1), .val (.int (0 : Int32)), .val (.int (own_fin (own_mix (1 : Int32) i1))), .val (.int (own_fin (own_mix (1 : Int32) i1))), .val (.int (own_fin (own_mix (1 : Int32) i4)))] [(.int (own_fin (own_mix (1 : Int32) i1))), (.int (own_fin (own_mix (1 : Int32) i1)))])) (fun t k => XS.iload X33.here hx rfl (hb hby at_180) rfl k) ?_
      refine own_by (B := T33.setTop (mkF m 185 #[.val (.int i0), .val (.int i1), .val (.int i2), .val (.int i3), .val (.int i4), .val (.int (1 : Int32)), .val (.ref b13), .val (.ref b14), .val (.ref b15), .val (.int i1), .val (.int (0 : Int32)), .val (.int (own_fin (own_mix (1 : Int32) i1))), .val (.int (own_fin (own_mix (1 : Int32) i1))), .val (.int (own_fin (own_mix (1 : Int32) i4)))] [])) (fun t k => XS.icmpNo X33.here hx rfl (hb hby at_182) rfl (teq rfl).2 k) ?_
      refine own_by (B := T33.setTop (mkF m 187 #[.val (.int i0), .val (.int i1), .val (.int i2), .val (.int i3), .val (.int i4), .val (.int (1 : Int32)), .val (.ref b13), .val (.ref b14), .val (.ref b15), .val (.int i1), .val (.int (0 : Int32)), .val (.int (own_fin (own_mix (1 : Int32) i1))), .val (.int (own_fin (own_mix (1 : Int32) i1))), .val (.int (own_fin (own_mix (1 : Int32) i4)))] [(.int (own_fin (own_mix (1 : Int32) i1)))])) (fun t k => XS.iload X33.here hx rfl (hb hby at_185) rfl k) ?_
      refine own_by (B := T33.setTop (mkF m 189 #[.val (.int i0), .val (.int i1), .val (.int i2), .val (.int i3), .val (.int i4), .val (.int (1 : Int32)), .val (.ref b13), .val (.ref b14), .val (.ref b15), .val (.int i1), .val (.int (0 : Int32)), .val (.int (own_fin (own_mix (1 : Int32) i1))), .val (.int (own_fin (own_mix (1 : Int32) i1))), .val (.int (own_fin (own_mix (1 : Int32) i4)))] [(.int (own_fin (own_mix (1 : Int32) i4))), (.int (own_fin (own_mix (1 : Int32) i1)))])) (fun t k => XS.iload X33.here hx rfl (hb hby at_187) rfl k) ?_
      refine own_by (B := T33.setTop (mkF m 196 #[.val (.int i0), .val (.int i1), .val (.int i2), .val (.int i3), .val (.int i4), .val (.int (1 : Int32)), .val (.ref b13), .val (.ref b14), .val (.ref b15), .val (.int i1), .val (.int (0 : Int32)), .val (.int (own_fin (own_mix (1 : Int32) i1))), .val (.int (own_fin (own_mix (1 : Int32) i1))), .val (.int (own_fin (own_mix (1 : Int32) i4)))] [])) (fun t k => XS.icmpYes X33.here hx rfl (pc0 := 189) (pc' := 196) rfl (hb hby at_189) rfl (feq (fun q => hc126 (own_mix_inj (own_fin_inj q)))).2 (by decide) (by decide) k) ?_
      refine own_by (B := T33.setTop (mkF m 197 #[.val (.int i0), .val (.int i1), .val (.int i2), .val (.int i3), .val (.int i4), .val (.int (1 : Int32)), .val (.ref b13), .val (.ref b14), .val (.ref b15), .val (.int i1), .val (.int (0 : Int32)), .val (.int (own_fin (own_mix (1 : Int32) i1))), .val (.int (own_fin (own_mix (1 : Int32) i1))), .val (.int (own_fin (own_mix (1 : Int32) i4)))] [(.int (0 : Int32))])) (fun t k => XS.iconst X33.here hx rfl (hb hby at_196) k) ?_
      refine own_by (B := T33.setTop (mkF m 199 #[.val (.int i0), .val (.int i1), .val (.int i2), .val (.int i3), .val (.int i4), .val (.int (1 : Int32)), .val (.ref b13), .val (.ref b14), .val (.ref b15), .val (.int i1), .val (.int (0 : Int32)), .val (.int (own_fin (own_mix (1 : Int32) i1))), .val (.int (own_fin (own_mix (1 : Int32) i1))), .val (.int (own_fin (own_mix (1 : Int32) i4)))] [(.int (0 : Int32)), (.int (0 : Int32))])) (fun t k => XS.iload X33.here hx rfl (hb hby at_197) rfl k) ?_
      refine own_by (B := T33.setTop (mkF m 202 #[.val (.int i0), .val (.int i1), .val (.int i2), .val (.int i3), .val (.int i4), .val (.int (1 : Int32)), .val (.ref b13), .val (.ref b14), .val (.ref b15), .val (.int i1), .val (.int (0 : Int32)), .val (.int (own_fin (own_mix (1 : Int32) i1))), .val (.int (own_fin (own_mix (1 : Int32) i1))), .val (.int (own_fin (own_mix (1 : Int32) i4)))] [])) (fun t k => XS.icmpNo X33.here hx rfl (hb hby at_199) rfl (teq (by decide)).2 k) ?_
      refine own_by (B := T33.setTop (mkF m 203 #[.val (.int i0), .val (.int i1), .val (.int i2), .val (.int i3), .val (.int i4), .val (.int (1 : Int32)), .val (.ref b13), .val (.ref b14), .val (.ref b15), .val (.int i1), .val (.int (0 : Int32)), .val (.int (own_fin (own_mix (1 : Int32) i1))), .val (.int (own_fin (own_mix (1 : Int32) i1))), .val (.int (own_fin (own_mix (1 : Int32) i4)))] [(.int (1 : Int32))])) (fun t k => XS.iconst X33.here hx rfl (hb hby at_202) k) ?_
      refine own_by (B := T33.setTop (mkF m 207 #[.val (.int i0), .val (.int i1), .val (.int i2), .val (.int i3), .val (.int i4), .val (.int (1 : Int32)), .val (.ref b13), .val (.ref b14), .val (.ref b15), .val (.int i1), .val (.int (0 : Int32)), .val (.int (own_fin (own_mix (1 : Int32) i1))), .val (.int (own_fin (own_mix (1 : Int32) i1))), .val (.int (own_fin (own_mix (1 : Int32) i4)))] [(.int (1 : Int32))])) (fun t k => XS.goto X33.here hx rfl (pc0 := 203) (pc' := 207) rfl (hb hby at_203) (by decide) (by decide) k) ?_
      exact own_end X33 (v := some (.int (1 : Int32))) (fun h => by rw [Bd.returns] at h; cases h) (BodyLoose.notSynchronized Bd) (Q := (Q_rm0 Z i0 i1 i2 i3 i4 h0 n0)) (fun fs hr => retN X33 hx (t := .boolean) Bd.returns (by simp) (hb hby at_207) hr) (show (Q_rm0 Z i0 i1 i2 i3 i4 h0 n0) _ T33.heap _ from (by rw [ec33]; exact ⟨rfl, Nf⟩)) (by decide) (by decide)
  · rw [hq]
    refine own_by (B := s₁.setTop (mkF m 7 #[.val (.int i0), .val (.int i1), .val (.int i2), .val (.int i3), .val (.int i4), .val (.int (2 : Int32)), .unset, .unset, .unset, .unset, .unset, .unset, .unset, .unset] [(.int (2 : Int32))])) (fun t k => XS.iload X0.here hx rfl (hb hby at_5) rfl k) ?_
    refine own_by (B := s₁.setTop (mkF m 8 #[.val (.int i0), .val (.int i1), .val (.int i2), .val (.int i3), .val (.int i4), .val (.int (2 : Int32)), .unset, .unset, .unset, .unset, .unset, .unset, .unset, .unset] [(.int i1), (.int (2 : Int32))])) (fun t k => XS.iloadN X0.here hx rfl (hb hby at_7) rfl k) ?_
    refine own_by (B := s₁.setTop (mkF m 9 #[.val (.int i0), .val (.int i1), .val (.int i2), .val (.int i3), .val (.int i4), .val (.int (2 : Int32)), .unset, .unset, .unset, .unset, .unset, .unset, .unset, .unset] [(.int i2), (.int i1), (.int (2 : Int32))])) (fun t k => XS.iloadN X0.here hx rfl (hb hby at_8) rfl k) ?_
    refine own_by (B := s₁.setTop (mkF m 10 #[.val (.int i0), .val (.int i1), .val (.int i2), .val (.int i3), .val (.int i4), .val (.int (2 : Int32)), .unset, .unset, .unset, .unset, .unset, .unset, .unset, .unset] [(.int i3), (.int i2), (.int i1), (.int (2 : Int32))])) (fun t k => XS.iloadN X0.here hx rfl (hb hby at_9) rfl k) ?_
    obtain ⟨_, _, ⟨T34, L34, k34, n34⟩, -, X34, ⟨Lc34, hQ34, l34, y34, z34⟩, st34⟩ := Jvm.LawKit.callS X0 hx (y := (⟨"com/example/processes_as_trees/processesastrees/StateTupleHashCodePinLaw", "make", "(IIII)[I"⟩ : MethodName)) hown (mvT hZ (hw _ (List.mem_of_getElem? (i := 0) rfl))) (mvT hZ (hw _ (List.mem_of_getElem? (i := 1) rfl))) (mvT hZ (hw _ (List.mem_of_getElem? (i := 2) rfl))) (mvT hZ (hw _ (List.mem_of_getElem? (i := 3) rfl))) (by decide) (backOf (W := 0) (rmM2 l Z a0 hw [] i1 i2 i3 h0 n0 Zs) hZ (hw _ (List.mem_of_getElem? (i := 3) rfl)) (hw _ (List.mem_of_getElem? (i := 2) rfl)) (by decide) (by decide)) (g := (mkF m 10 #[.val (.int i0), .val (.int i1), .val (.int i2), .val (.int i3), .val (.int i4), .val (.int (2 : Int32)), .unset, .unset, .unset, .unset, .unset, .unset, .unset, .unset] [(.int i3), (.int i2), (.int i1), (.int (2 : Int32))])) rfl (by rw [hml]; rfl) (argsL := [(.int (2 : Int32)), (.int i1), (.int i2), (.int i3)]) (rest := []) (lenOf own_pd1 rfl) rfl (by show 2 * 0 + _ ≤ _; exact Nat.le_of_eq rfl) (hb hby at_10) (fun _ _ => ⟨rfl, e0, (by decide : 0 + 1 ≤ _), (by decide : 0 + 2 ≤ _)⟩)
    dsimp only [Pt.U, Pt.locs, Pt.cells, Pt.slots] at X34 l34 y34 z34 st34 hQ34
    subst l34 y34 z34
    obtain ⟨rfl, Nq34, Kc34, f34, Vc34, hf34_0, hf34_1⟩ := hQ34
    have Nf := Fr.app Nf Nq34
    obtain ⟨b34, gq34⟩ : ∃ z, z = h0.size := ⟨_, rfl⟩
    rw [← gq34] at Vc34 st34
    have g_b34 : n0 ≤ b34 := Nat.le_trans Zs (Nat.le_of_eq gq34.symm)
    have Zs := Nat.le_trans Zs Kc34.1
    have V_b34 := Vc34
    refine own_by (B := T34.setTop (mkF m 13 #[.val (.int i0), .val (.int i1), .val (.int i2), .val (.int i3), .val (.int i4), .val (.int (2 : Int32)), .unset, .unset, .unset, .unset, .unset, .unset, .unset, .unset] [(.ref b34)])) st34 ?_
    refine own_by (B := T34.setTop (mkF m 15 #[.val (.int i0), .val (.int i1), .val (.int i2), .val (.int i3), .val (.int i4), .val (.int (2 : Int32)), .val (.ref b34), .unset, .unset, .unset, .unset, .unset, .unset, .unset] [])) (fun t k => XS.astore X34.here hx rfl (hb hby at_13) rfl rfl (l' := #[.val (.int i0), .val (.int i1), .val (.int i2), .val (.int i3), .val (.int i4), .val (.int (2 : Int32)), .val (.ref b34), .unset, .unset, .unset, .unset, .unset, .unset, .unset]) rfl k) ?_
    refine own_by (B := T34.setTop (mkF m 17 #[.val (.int i0), .val (.int i1), .val (.int i2), .val (.int i3), .val (.int i4), .val (.int (2 : Int32)), .val (.ref b34), .unset, .unset, .unset, .unset, .unset, .unset, .unset] [(.int (2 : Int32))])) (fun t k => XS.iload X34.here hx rfl (hb hby at_15) rfl k) ?_
    refine own_by (B := T34.setTop (mkF m 18 #[.val (.int i0), .val (.int i1), .val (.int i2), .val (.int i3), .val (.int i4), .val (.int (2 : Int32)), .val (.ref b34), .unset, .unset, .unset, .unset, .unset, .unset, .unset] [(.int i1), (.int (2 : Int32))])) (fun t k => XS.iloadN X34.here hx rfl (hb hby at_17) rfl k) ?_
    refine own_by (B := T34.setTop (mkF m 19 #[.val (.int i0), .val (.int i1), .val (.int i2), .val (.int i3), .val (.int i4), .val (.int (2 : Int32)), .val (.ref b34), .unset, .unset, .unset, .unset, .unset, .unset, .unset] [(.int i2), (.int i1), (.int (2 : Int32))])) (fun t k => XS.iloadN X34.here hx rfl (hb hby at_18) rfl k) ?_
    refine own_by (B := T34.setTop (mkF m 20 #[.val (.int i0), .val (.int i1), .val (.int i2), .val (.int i3), .val (.int i4), .val (.int (2 : Int32)), .val (.ref b34), .unset, .unset, .unset, .unset, .unset, .unset, .unset] [(.int i3), (.int i2), (.int i1), (.int (2 : Int32))])) (fun t k => XS.iloadN X34.here hx rfl (hb hby at_19) rfl k) ?_
    obtain ⟨_, _, ⟨T35, L35, k35, n35⟩, -, X35, ⟨Lc35, hQ35, l35, y35, z35⟩, st35⟩ := Jvm.LawKit.callS X34 hx (y := (⟨"com/example/processes_as_trees/processesastrees/StateTupleHashCodePinLaw", "make", "(IIII)[I"⟩ : MethodName)) hown (mvT hZ (hw _ (List.mem_of_getElem? (i := 0) rfl))) (mvT hZ (hw _ (List.mem_of_getElem? (i := 1) rfl))) (mvT hZ (hw _ (List.mem_of_getElem? (i := 2) rfl))) (mvT hZ (hw _ (List.mem_of_getElem? (i := 3) rfl))) (by decide) (backOf (W := 0) (rmM2 l Z a0 hw [] i1 i2 i3 T34.heap n0 Zs) hZ (hw _ (List.mem_of_getElem? (i := 3) rfl)) (hw _ (List.mem_of_getElem? (i := 2) rfl)) (by decide) (by decide)) (g := (mkF m 20 #[.val (.int i0), .val (.int i1), .val (.int i2), .val (.int i3), .val (.int i4), .val (.int (2 : Int32)), .val (.ref b34), .unset, .unset, .unset, .unset, .unset, .unset, .unset] [(.int i3), (.int i2), (.int i1), (.int (2 : Int32))])) rfl (by rw [hml]; rfl) (argsL := [(.int (2 : Int32)), (.int i1), (.int i2), (.int i3)]) (rest := []) (lenOf own_pd1 rfl) rfl (by show 2 * 0 + _ ≤ _; exact Nat.le_of_eq rfl) (hb hby at_20) (fun _ _ => ⟨rfl, rfl, (by decide : 1 + 1 ≤ _), (by decide : 2 + 2 ≤ _)⟩)
    dsimp only [Pt.U, Pt.locs, Pt.cells, Pt.slots] at X35 l35 y35 z35 st35 hQ35
    subst l35 y35 z35
    obtain ⟨rfl, Nq35, Kc35, f35, Vc35, hf35_0, hf35_1⟩ := hQ35
    have Nf := Fr.app Nf Nq35
    obtain ⟨b35, gq35⟩ : ∃ z, z = T34.heap.size := ⟨_, rfl⟩
    rw [← gq35] at Vc35 st35
    have ne_b34_b35 : b34 ≠ b35 := Nat.ne_of_lt (Nat.lt_of_lt_of_le V_b34.lt (Nat.le_of_eq gq35.symm))
    have g_b35 : n0 ≤ b35 := Nat.le_trans Zs (Nat.le_of_eq gq35.symm)
    have V_b34 := V_b34.keep Kc35 nin0
    have Zs := Nat.le_trans Zs Kc35.1
    have V_b35 := Vc35
    refine own_by (B := T35.setTop (mkF m 23 #[.val (.int i0), .val (.int i1), .val (.int i2), .val (.int i3), .val (.int i4), .val (.int (2 : Int32)), .val (.ref b34), .unset, .unset, .unset, .unset, .unset, .unset, .unset] [(.ref b35)])) st35 ?_
    refine own_by (B := T35.setTop (mkF m 25 #[.val (.int i0), .val (.int i1), .val (.int i2), .val (.int i3), .val (.int i4), .val (.int (2 : Int32)), .val (.ref b34), .val (.ref b35), .unset, .unset, .unset, .unset, .unset, .unset] [])) (fun t k => XS.astore X35.here hx rfl (hb hby at_23) rfl rfl (l' := #[.val (.int i0), .val (.int i1), .val (.int i2), .val (.int i3), .val (.int i4), .val (.int (2 : Int32)), .val (.ref b34), .val (.ref b35), .unset, .unset, .unset, .unset, .unset, .unset]) rfl k) ?_
    refine own_by (B := T35.setTop (mkF m 27 #[.val (.int i0), .val (.int i1), .val (.int i2), .val (.int i3), .val (.int i4), .val (.int (2 : Int32)), .val (.ref b34), .val (.ref b35), .unset, .unset, .unset, .unset, .unset, .unset] [(.int (2 : Int32))])) (fun t k => XS.iload X35.here hx rfl (hb hby at_25) rfl k) ?_
    refine own_by (B := T35.setTop (mkF m 42 #[.val (.int i0), .val (.int i1), .val (.int i2), .val (.int i3), .val (.int i4), .val (.int (2 : Int32)), .val (.ref b34), .val (.ref b35), .unset, .unset, .unset, .unset, .unset, .unset] [])) (fun t k => XS.ifYes X35.here hx rfl (pc0 := 27) (pc' := 42) rfl (hb hby at_27) rfl ((if0 _ _).trans (feq (by decide)).2) (by decide) (by decide) k) ?_
    refine own_by (B := T35.setTop (mkF m 44 #[.val (.int i0), .val (.int i1), .val (.int i2), .val (.int i3), .val (.int i4), .val (.int (2 : Int32)), .val (.ref b34), .val (.ref b35), .unset, .unset, .unset, .unset, .unset, .unset] [(.int (2 : Int32))])) (fun t k => XS.iload X35.here hx rfl (hb hby at_42) rfl k) ?_
    refine own_by (B := T35.setTop (mkF m 45 #[.val (.int i0), .val (.int i1), .val (.int i2), .val (.int i3), .val (.int i4), .val (.int (2 : Int32)), .val (.ref b34), .val (.ref b35), .unset, .unset, .unset, .unset, .unset, .unset] [(.int (1 : Int32)), (.int (2 : Int32))])) (fun t k => XS.iconst X35.here hx rfl (hb hby at_44) k) ?_
    refine own_by (B := T35.setTop (mkF m 61 #[.val (.int i0), .val (.int i1), .val (.int i2), .val (.int i3), .val (.int i4), .val (.int (2 : Int32)), .val (.ref b34), .val (.ref b35), .unset, .unset, .unset, .unset, .unset, .unset] [])) (fun t k => XS.icmpYes X35.here hx rfl (pc0 := 45) (pc' := 61) rfl (hb hby at_45) rfl (feq (by decide)).2 (by decide) (by decide) k) ?_
    refine own_by (B := T35.setTop (mkF m 63 #[.val (.int i0), .val (.int i1), .val (.int i2), .val (.int i3), .val (.int i4), .val (.int (2 : Int32)), .val (.ref b34), .val (.ref b35), .unset, .unset, .unset, .unset, .unset, .unset] [(.int (2 : Int32))])) (fun t k => XS.iload X35.here hx rfl (hb hby at_61) rfl k) ?_
    refine own_by (B := T35.setTop (mkF m 64 #[.val (.int i0), .val (.int i1), .val (.int i2), .val (.int i3), .val (.int i4), .val (.int (2 : Int32)), .val (.ref b34), .val (.ref b35), .unset, .unset, .unset, .unset, .unset, .unset] [(.int (2 : Int32)), (.int (2 : Int32))])) (fun t k => XS.iconst X35.here hx rfl (hb hby at_63) k) ?_
    refine own_by (B := T35.setTop (mkF m 67 #[.val (.int i0), .val (.int i1), .val (.int i2), .val (.int i3), .val (.int i4), .val (.int (2 : Int32)), .val (.ref b34), .val (.ref b35), .unset, .unset, .unset, .unset, .unset, .unset] [])) (fun t k => XS.icmpNo X35.here hx rfl (hb hby at_64) rfl (teq (by decide)).2 k) ?_
    refine own_by (B := T35.setTop (mkF m 68 #[.val (.int i0), .val (.int i1), .val (.int i2), .val (.int i3), .val (.int i4), .val (.int (2 : Int32)), .val (.ref b34), .val (.ref b35), .unset, .unset, .unset, .unset, .unset, .unset] [(.int (2 : Int32))])) (fun t k => XS.iconst X35.here hx rfl (hb hby at_67) k) ?_
    refine own_by (B := T35.setTop (mkF m 69 #[.val (.int i0), .val (.int i1), .val (.int i2), .val (.int i3), .val (.int i4), .val (.int (2 : Int32)), .val (.ref b34), .val (.ref b35), .unset, .unset, .unset, .unset, .unset, .unset] [(.int i1), (.int (2 : Int32))])) (fun t k => XS.iloadN X35.here hx rfl (hb hby at_68) rfl k) ?_
    refine own_by (B := T35.setTop (mkF m 71 #[.val (.int i0), .val (.int i1), .val (.int i2), .val (.int i3), .val (.int i4), .val (.int (2 : Int32)), .val (.ref b34), .val (.ref b35), .unset, .unset, .unset, .unset, .unset, .unset] [(.int i4), (.int i1), (.int (2 : Int32))])) (fun t k => XS.iload X35.here hx rfl (hb hby at_69) rfl k) ?_
    refine own_by (B := T35.setTop (mkF m 72 #[.val (.int i0), .val (.int i1), .val (.int i2), .val (.int i3), .val (.int i4), .val (.int (2 : Int32)), .val (.ref b34), .val (.ref b35), .unset, .unset, .unset, .unset, .unset, .unset] [(.int i3), (.int i4), (.int i1), (.int (2 : Int32))])) (fun t k => XS.iloadN X35.here hx rfl (hb hby at_71) rfl k) ?_
    obtain ⟨_, _, ⟨T36, L36, k36, n36⟩, -, X36, ⟨Lc36, hQ36, l36, y36, z36⟩, st36⟩ := Jvm.LawKit.callS X35 hx (y := (⟨"com/example/processes_as_trees/processesastrees/StateTupleHashCodePinLaw", "make", "(IIII)[I"⟩ : MethodName)) hown (mvT hZ (hw _ (List.mem_of_getElem? (i := 0) rfl))) (mvT hZ (hw _ (List.mem_of_getElem? (i := 1) rfl))) (mvT hZ (hw _ (List.mem_of_getElem? (i := 2) rfl))) (mvT hZ (hw _ (List.mem_of_getElem? (i := 3) rfl))) (by decide) (backOf (W := 0) (rmM2 l Z a0 hw [] i1 i4 i3 T35.heap n0 Zs) hZ (hw _ (List.mem_of_getElem? (i := 3) rfl)) (hw _ (List.mem_of_getElem? (i := 2) rfl)) (by decide) (by decide)) (g := (mkF m 72 #[.val (.int i0), .val (.int i1), .val (.int i2), .val (.int i3), .val (.int i4), .val (.int (2 : Int32)), .val (.ref b34), .val (.ref b35), .unset, .unset, .unset, .unset, .unset, .unset] [(.int i3), (.int i4), (.int i1), (.int (2 : Int32))])) rfl (by rw [hml]; rfl) (argsL := [(.int (2 : Int32)), (.int i1), (.int i4), (.int i3)]) (rest := []) (lenOf own_pd1 rfl) rfl (by show 2 * 0 + _ ≤ _; exact Nat.le_of_eq rfl) (hb hby at_72) (fun _ _ => ⟨rfl, rfl, (by decide : 2 + 1 ≤ _), (by decide : 4 + 2 ≤ _)⟩)
    dsimp only [Pt.U, Pt.locs, Pt.cells, Pt.slots] at X36 l36 y36 z36 st36 hQ36
    subst l36 y36 z36
    obtain ⟨rfl, Nq36, Kc36, f36, Vc36, hf36_0, hf36_1⟩ := hQ36
    have Nf := Fr.app Nf Nq36
    obtain ⟨b36, gq36⟩ : ∃ z, z = T35.heap.size := ⟨_, rfl⟩
    rw [← gq36] at Vc36 st36
    have ne_b34_b36 : b34 ≠ b36 := Nat.ne_of_lt (Nat.lt_of_lt_of_le V_b34.lt (Nat.le_of_eq gq36.symm))
    have ne_b35_b36 : b35 ≠ b36 := Nat.ne_of_lt (Nat.lt_of_lt_of_le V_b35.lt (Nat.le_of_eq gq36.symm))
    have g_b36 : n0 ≤ b36 := Nat.le_trans Zs (Nat.le_of_eq gq36.symm)
    have V_b34 := V_b34.keep Kc36 nin0
    have V_b35 := V_b35.keep Kc36 nin0
    have Zs := Nat.le_trans Zs Kc36.1
    have V_b36 := Vc36
    refine own_by (B := T36.setTop (mkF m 75 #[.val (.int i0), .val (.int i1), .val (.int i2), .val (.int i3), .val (.int i4), .val (.int (2 : Int32)), .val (.ref b34), .val (.ref b35), .unset, .unset, .unset, .unset, .unset, .unset] [(.ref b36)])) st36 ?_
    refine own_by (B := T36.setTop (mkF m 77 #[.val (.int i0), .val (.int i1), .val (.int i2), .val (.int i3), .val (.int i4), .val (.int (2 : Int32)), .val (.ref b34), .val (.ref b35), .val (.ref b36), .unset, .unset, .unset, .unset, .unset] [])) (fun t k => XS.astore X36.here hx rfl (hb hby at_75) rfl rfl (l' := #[.val (.int i0), .val (.int i1), .val (.int i2), .val (.int i3), .val (.int i4), .val (.int (2 : Int32)), .val (.ref b34), .val (.ref b35), .val (.ref b36), .unset, .unset, .unset, .unset, .unset]) rfl k) ?_
    refine own_by (B := T36.setTop (mkF m 90 #[.val (.int i0), .val (.int i1), .val (.int i2), .val (.int i3), .val (.int i4), .val (.int (2 : Int32)), .val (.ref b34), .val (.ref b35), .val (.ref b36), .unset, .unset, .unset, .unset, .unset] [])) (fun t k => XS.goto X36.here hx rfl (pc0 := 77) (pc' := 90) rfl (hb hby at_77) (by decide) (by decide) k) ?_
    refine own_by (B := T36.setTop (mkF m 92 #[.val (.int i0), .val (.int i1), .val (.int i2), .val (.int i3), .val (.int i4), .val (.int (2 : Int32)), .val (.ref b34), .val (.ref b35), .val (.ref b36), .unset, .unset, .unset, .unset, .unset] [(.int (2 : Int32))])) (fun t k => XS.iload X36.here hx rfl (hb hby at_90) rfl k) ?_
    refine own_by (B := T36.setTop (mkF m 93 #[.val (.int i0), .val (.int i1), .val (.int i2), .val (.int i3), .val (.int i4), .val (.int (2 : Int32)), .val (.ref b34), .val (.ref b35), .val (.ref b36), .unset, .unset, .unset, .unset, .unset] [(.int (1 : Int32)), (.int (2 : Int32))])) (fun t k => XS.iconst X36.here hx rfl (hb hby at_92) k) ?_
    refine own_by (B := T36.setTop (mkF m 102 #[.val (.int i0), .val (.int i1), .val (.int i2), .val (.int i3), .val (.int i4), .val (.int (2 : Int32)), .val (.ref b34), .val (.ref b35), .val (.ref b36), .unset, .unset, .unset, .unset, .unset] [])) (fun t k => XS.icmpYes X36.here hx rfl (pc0 := 93) (pc' := 102) rfl (hb hby at_93) rfl (feq (by decide)).2 (by decide) (by decide) k) ?_
    refine own_by (B := T36.setTop (mkF m 104 #[.val (.int i0), .val (.int i1), .val (.int i2), .val (.int i3), .val (.int i4), .val (.int (2 : Int32)), .val (.ref b34), .val (.ref b35), .val (.ref b36), .unset, .unset, .unset, .unset, .unset] [(.int (2 : Int32))])) (fun t k => XS.iload X36.here hx rfl (hb hby at_102) rfl k) ?_
    refine own_by (B := T36.setTop (mkF m 105 #[.val (.int i0), .val (.int i1), .val (.int i2), .val (.int i3), .val (.int i4), .val (.int (2 : Int32)), .val (.ref b34), .val (.ref b35), .val (.ref b36), .unset, .unset, .unset, .unset, .unset] [(.int (2 : Int32)), (.int (2 : Int32))])) (fun t k => XS.iconst X36.here hx rfl (hb hby at_104) k) ?_
    refine own_by (B := T36.setTop (mkF m 108 #[.val (.int i0), .val (.int i1), .val (.int i2), .val (.int i3), .val (.int i4), .val (.int (2 : Int32)), .val (.ref b34), .val (.ref b35), .val (.ref b36), .unset, .unset, .unset, .unset, .unset] [])) (fun t k => XS.icmpNo X36.here hx rfl (hb hby at_105) rfl (teq (by decide)).2 k) ?_
    refine own_by (B := T36.setTop (mkF m 109 #[.val (.int i0), .val (.int i1), .val (.int i2), .val (.int i3), .val (.int i4), .val (.int (2 : Int32)), .val (.ref b34), .val (.ref b35), .val (.ref b36), .unset, .unset, .unset, .unset, .unset] [(.int i2)])) (fun t k => XS.iloadN X36.here hx rfl (hb hby at_108) rfl k) ?_
    refine own_by (B := T36.setTop (mkF m 111 #[.val (.int i0), .val (.int i1), .val (.int i2), .val (.int i3), .val (.int i4), .val (.int (2 : Int32)), .val (.ref b34), .val (.ref b35), .val (.ref b36), .val (.int i2), .unset, .unset, .unset, .unset] [])) (fun t k => XS.istore X36.here hx rfl (hb hby at_109) rfl (l' := #[.val (.int i0), .val (.int i1), .val (.int i2), .val (.int i3), .val (.int i4), .val (.int (2 : Int32)), .val (.ref b34), .val (.ref b35), .val (.ref b36), .val (.int i2), .unset, .unset, .unset, .unset]) rfl k) ?_
    refine own_by (B := T36.setTop (mkF m 117 #[.val (.int i0), .val (.int i1), .val (.int i2), .val (.int i3), .val (.int i4), .val (.int (2 : Int32)), .val (.ref b34), .val (.ref b35), .val (.ref b36), .val (.int i2), .unset, .unset, .unset, .unset] [])) (fun t k => XS.goto X36.here hx rfl (pc0 := 111) (pc' := 117) rfl (hb hby at_111) (by decide) (by decide) k) ?_
    refine own_by (B := T36.setTop (mkF m 119 #[.val (.int i0), .val (.int i1), .val (.int i2), .val (.int i3), .val (.int i4), .val (.int (2 : Int32)), .val (.ref b34), .val (.ref b35), .val (.ref b36), .val (.int i2), .unset, .unset, .unset, .unset] [(.int (2 : Int32))])) (fun t k => XS.iload X36.here hx rfl (hb hby at_117) rfl k) ?_
    refine own_by (B := T36.setTop (mkF m 122 #[.val (.int i0), .val (.int i1), .val (.int i2), .val (.int i3), .val (.int i4), .val (.int (2 : Int32)), .val (.ref b34), .val (.ref b35), .val (.ref b36), .val (.int i2), .unset, .unset, .unset, .unset] [])) (fun t k => XS.ifNo X36.here hx rfl (hb hby at_119) rfl ((if0 _ _).trans (feq (by decide)).1) k) ?_
    refine own_by (B := T36.setTop (mkF m 124 #[.val (.int i0), .val (.int i1), .val (.int i2), .val (.int i3), .val (.int i4), .val (.int (2 : Int32)), .val (.ref b34), .val (.ref b35), .val (.ref b36), .val (.int i2), .unset, .unset, .unset, .unset] [(.int i2)])) (fun t k => XS.iload X36.here hx rfl (hb hby at_122) rfl k) ?_
    refine own_by (B := T36.setTop (mkF m 126 #[.val (.int i0), .val (.int i1), .val (.int i2), .val (.int i3), .val (.int i4), .val (.int (2 : Int32)), .val (.ref b34), .val (.ref b35), .val (.ref b36), .val (.int i2), .unset, .unset, .unset, .unset] [(.int i4), (.int i2)])) (fun t k => XS.iload X36.here hx rfl (hb hby at_124) rfl k) ?_
    by_cases hc126 : i2 = i4
    · refine own_by (B := T36.setTop (mkF m 129 #[.val (.int i0), .val (.int i1), .val (.int i2), .val (.int i3), .val (.int i4), .val (.int (2 : Int32)), .val (.ref b34), .val (.ref b35), .val (.ref b36), .val (.int i2), .unset, .unset, .unset, .unset] [])) (fun t k => XS.icmpNo X36.here hx rfl (hb hby at_126) rfl (teq hc126).2 k) ?_
      refine own_by (B := T36.setTop (mkF m 130 #[.val (.int i0), .val (.int i1), .val (.int i2), .val (.int i3), .val (.int i4), .val (.int (2 : Int32)), .val (.ref b34), .val (.ref b35), .val (.ref b36), .val (.int i2), .unset, .unset, .unset, .unset] [(.int (1 : Int32))])) (fun t k => XS.iconst X36.here hx rfl (hb hby at_129) k) ?_
      refine own_by (B := T36.setTop (mkF m 134 #[.val (.int i0), .val (.int i1), .val (.int i2), .val (.int i3), .val (.int i4), .val (.int (2 : Int32)), .val (.ref b34), .val (.ref b35), .val (.ref b36), .val (.int i2), .unset, .unset, .unset, .unset] [(.int (1 : Int32))])) (fun t k => XS.goto X36.here hx rfl (pc0 := 130) (pc' := 134) rfl (hb hby at_130) (by decide) (by decide) k) ?_
      refine own_by (B := T36.setTop (mkF m 136 #[.val (.int i0), .val (.int i1), .val (.int i2), .val (.int i3), .val (.int i4), .val (.int (2 : Int32)), .val (.ref b34), .val (.ref b35), .val (.ref b36), .val (.int i2), .val (.int (1 : Int32)), .unset, .unset, .unset] [])) (fun t k => XS.istore X36.here hx rfl (hb hby at_134) rfl (l' := #[.val (.int i0), .val (.int i1), .val (.int i2), .val (.int i3), .val (.int i4), .val (.int (2 : Int32)), .val (.ref b34), .val (.ref b35), .val (.ref b36), .val (.int i2), .val (.int (1 : Int32)), .unset, .unset, .unset]) rfl k) ?_
      obtain ⟨T37, h37, X37, e37, E37, A37, D37, -, st37⟩ := newO X36 hx hZ hown (hw _ (List.mem_of_getElem? (i := 5) rfl)) (hw _ (List.mem_of_getElem? (i := 6) rfl)) (hw _ (List.mem_of_getElem? (i := 7) rfl)) rfl (g := (mkF m 136 #[.val (.int i0), .val (.int i1), .val (.int i2), .val (.int i3), .val (.int i4), .val (.int (2 : Int32)), .val (.ref b34), .val (.ref b35), .val (.ref b36), .val (.int i2), .val (.int (1 : Int32)), .unset, .unset, .unset] [])) rfl (hb hby at_136) (by decide) (by decide)
      obtain ⟨b37, gq37⟩ : ∃ z, z = T36.heap.size := ⟨_, rfl⟩
      rw [← gq37] at A37 D37 st37
      have ne_b34_b37 : b34 ≠ b37 := Nat.ne_of_lt (Nat.lt_of_lt_of_le V_b34.lt (Nat.le_of_eq gq37.symm))
      have ne_b35_b37 : b35 ≠ b37 := Nat.ne_of_lt (Nat.lt_of_lt_of_le V_b35.lt (Nat.le_of_eq gq37.symm))
      have ne_b36_b37 : b36 ≠ b37 := Nat.ne_of_lt (Nat.lt_of_lt_of_le V_b36.lt (Nat.le_of_eq gq37.symm))
      have g_b37 : n0 ≤ b37 := Nat.le_trans Zs (Nat.le_of_eq gq37.symm)
      have V_b34 := V_b34.ext E37
      have V_b35 := V_b35.ext E37
      have V_b36 := V_b36.ext E37
      have Zs := Nat.le_trans Zs E37.1
      have E_b37 := A37
      have F_states_b37 : Fld Z h37 b37 "com/example/processes_as_trees/processesastrees/StateTuple" "states" "[I" .null := D37 (Or.inr (hw _ (List.mem_of_getElem? (i := 20) rfl))) (ty := (.array .int)) (by decide)
      refine own_by (B := T37.setTop (mkF m 139 #[.val (.int i0), .val (.int i1), .val (.int i2), .val (.int i3), .val (.int i4), .val (.int (2 : Int32)), .val (.ref b34), .val (.ref b35), .val (.ref b36), .val (.int i2), .val (.int (1 : Int32)), .unset, .unset, .unset] [(.ref b37)])) st37 ?_
      refine own_by (B := T37.setTop (mkF m 140 #[.val (.int i0), .val (.int i1), .val (.int i2), .val (.int i3), .val (.int i4), .val (.int (2 : Int32)), .val (.ref b34), .val (.ref b35), .val (.ref b36), .val (.int i2), .val (.int (1 : Int32)), .unset, .unset, .unset] [(.ref b37), (.ref b37)])) (fun t k => XS.dup X37.here hx rfl (hb hby at_139) rfl rfl k) ?_
      refine own_by (B := T37.setTop (mkF m 142 #[.val (.int i0), .val (.int i1), .val (.int i2), .val (.int i3), .val (.int i4), .val (.int (2 : Int32)), .val (.ref b34), .val (.ref b35), .val (.ref b36), .val (.int i2), .val (.int (1 : Int32)), .unset, .unset, .unset] [(.ref b34), (.ref b37), (.ref b37)])) (fun t k => XS.aload X37.here hx rfl (hb hby at_140) rfl rfl k) ?_
      obtain ⟨_, _, ⟨T38, L38, k38, n38⟩, -, X38, ⟨Lc38, hQ38, l38, y38, z38⟩, st38⟩ := X37.specialBack hx (y := (⟨"com/example/processes_as_trees/processesastrees/StateTuple", "<init>", "([I)V"⟩ : MethodName)) rfl hown (mvT hZ (hw _ (List.mem_of_getElem? (i := 8) rfl))) (mvT hZ (hw _ (List.mem_of_getElem? (i := 9) rfl))) (mvT hZ (hw _ (List.mem_of_getElem? (i := 10) rfl))) (by decide) (backOf (W := 1) (rmI l Z a0 hw [] b37 b34 h37 n0 Zs E_b37 F_states_b37 g_b37) hZ (hw _ (List.mem_of_getElem? (i := 10) rfl)) (hw _ (List.mem_of_getElem? (i := 7) rfl)) (by decide) (by decide)) (g := (mkF m 142 #[.val (.int i0), .val (.int i1), .val (.int i2), .val (.int i3), .val (.int i4), .val (.int (2 : Int32)), .val (.ref b34), .val (.ref b35), .val (.ref b36), .val (.int i2), .val (.int (1 : Int32)), .unset, .unset, .unset] [(.ref b34), (.ref b37), (.ref b37)])) rfl (by rw [hml]; rfl) (Steps.refl _) (a := b37) (argsL := [(.ref b34)]) (rest := [(.ref b37)]) (lenOf own_pd2 rfl) rfl (by show 2 * 0 + _ ≤ _; exact Nat.le_of_eq rfl) (hb hby at_142) (fun _ _ => ⟨rfl, e37, (by decide : 4 + 0 ≤ _), (by decide : 7 + 0 ≤ _)⟩)
      dsimp only [Pt.U, Pt.locs, Pt.cells, Pt.slots] at X38 l38 y38 z38 st38 hQ38
      subst l38 y38 z38
      obtain ⟨rfl, Nq38, Kc38, Fc38⟩ := hQ38
      have Nf := Fr.app Nf Nq38
      have V_b34 := V_b34.keep Kc38 (ninS ne_b34_b37 nin0)
      have V_b35 := V_b35.keep Kc38 (ninS ne_b35_b37 nin0)
      have V_b36 := V_b36.keep Kc38 (ninS ne_b36_b37 nin0)
      have E_b37 := E_b37.keep Kc38
      have Zs := Nat.le_trans Zs Kc38.1
      have F_states_b37 := Fc38
      refine own_by (B := T38.setTop (mkF m 145 #[.val (.int i0), .val (.int i1), .val (.int i2), .val (.int i3), .val (.int i4), .val (.int (2 : Int32)), .val (.ref b34), .val (.ref b35), .val (.ref b36), .val (.int i2), .val (.int (1 : Int32)), .unset, .unset, .unset] [(.ref b37)])) (fun t k => st38.trans k) ?_
      obtain ⟨cq39, kq39, q39a, q39b, q39c⟩ := isOf hZ rfl E_b37
      obtain ⟨_, _, ⟨T39, L39, k39, n39⟩, -, X39, ⟨Lc39, hQ39, l39, y39, z39⟩, st39⟩ := X38.virtualBack hx (y := (⟨"com/example/processes_as_trees/processesastrees/StateTuple", "hashCode", "()I"⟩ : MethodName)) (z := (⟨"com/example/processes_as_trees/processesastrees/StateTuple", "hashCode", "()I"⟩ : MethodName)) hown (mvT hZ (hw _ (List.mem_of_getElem? (i := 21) rfl))) (mvT hZ (hw _ (List.mem_of_getElem? (i := 22) rfl))) (notFace_of_selects (args := #[]) (mvT hZ (hw _ (List.mem_of_getElem? (i := 24) rfl)))) (mvT hZ (hw _ (List.mem_of_getElem? (i := 24) rfl))) (mvT hZ (hw _ (List.mem_of_getElem? (i := 23) rfl))) (by decide) (backOf (W := 0) (rmH2 l Z a0 hw [] b37 b34 f34 i1 i2 T38.heap n0 Zs F_states_b37 V_b34 hf34_0 hf34_1) hZ (hw _ (List.mem_of_getElem? (i := 25) rfl)) (hw _ (List.mem_of_getElem? (i := 7) rfl)) (by decide) (by decide)) q39a q39c (g := (mkF m 145 #[.val (.int i0), .val (.int i1), .val (.int i2), .val (.int i3), .val (.int i4), .val (.int (2 : Int32)), .val (.ref b34), .val (.ref b35), .val (.ref b36), .val (.int i2), .val (.int (1 : Int32)), .unset, .unset, .unset] [(.ref b37)])) rfl (by rw [hml]; rfl) (Steps.refl _) (argsL := []) (rest := []) (lenOf own_pd3 rfl) rfl (by show 2 * 0 + _ ≤ _; exact Nat.le_of_eq rfl) (hb hby at_145) (fun _ _ => ⟨rfl, rfl, (by decide : 4 + 0 ≤ _), (by decide : 7 + 0 ≤ _)⟩)
      dsimp only [Pt.U, Pt.locs, Pt.cells, Pt.slots] at X39 l39 y39 z39 st39 hQ39
      subst l39 y39 z39
      obtain ⟨rfl, Nq39, hp39⟩ := hQ39
      have Nf := Fr.app Nf Nq39
      have ec39 : T39.heap = T38.heap := hp39
      refine own_by (B := T39.setTop (mkF m 148 #[.val (.int i0), .val (.int i1), .val (.int i2), .val (.int i3), .val (.int i4), .val (.int (2 : Int32)), .val (.ref b34), .val (.ref b35), .val (.ref b36), .val (.int i2), .val (.int (1 : Int32)), .unset, .unset, .unset] [(.int (own_fin (own_mix (own_mix (2 : Int32) i1) i2)))])) (fun t k => st39.trans k) ?_
      refine own_by (B := T39.setTop (mkF m 150 #[.val (.int i0), .val (.int i1), .val (.int i2), .val (.int i3), .val (.int i4), .val (.int (2 : Int32)), .val (.ref b34), .val (.ref b35), .val (.ref b36), .val (.int i2), .val (.int (1 : Int32)), .val (.int (own_fin (own_mix (own_mix (2 : Int32) i1) i2))), .unset, .unset] [])) (fun t k => XS.istore X39.here hx rfl (hb hby at_148) rfl (l' := #[.val (.int i0), .val (.int i1), .val (.int i2), .val (.int i3), .val (.int i4), .val (.int (2 : Int32)), .val (.ref b34), .val (.ref b35), .val (.ref b36), .val (.int i2), .val (.int (1 : Int32)), .val (.int (own_fin (own_mix (own_mix (2 : Int32) i1) i2))), .unset, .unset]) rfl k) ?_
      obtain ⟨T40, h40, X40, e40, E40, A40, D40, -, st40⟩ := newO X39 hx hZ hown (hw _ (List.mem_of_getElem? (i := 5) rfl)) (hw _ (List.mem_of_getElem? (i := 6) rfl)) (hw _ (List.mem_of_getElem? (i := 7) rfl)) ec39 (g := (mkF m 150 #[.val (.int i0), .val (.int i1), .val (.int i2), .val (.int i3), .val (.int i4), .val (.int (2 : Int32)), .val (.ref b34), .val (.ref b35), .val (.ref b36), .val (.int i2), .val (.int (1 : Int32)), .val (.int (own_fin (own_mix (own_mix (2 : Int32) i1) i2))), .unset, .unset] [])) rfl (hb hby at_150) (by decide) (by decide)
      obtain ⟨b40, gq40⟩ : ∃ z, z = T38.heap.size := ⟨_, rfl⟩
      rw [← gq40] at A40 D40 st40
      have ne_b34_b40 : b34 ≠ b40 := Nat.ne_of_lt (Nat.lt_of_lt_of_le V_b34.lt (Nat.le_of_eq gq40.symm))
      have ne_b35_b40 : b35 ≠ b40 := Nat.ne_of_lt (Nat.lt_of_lt_of_le V_b35.lt (Nat.le_of_eq gq40.symm))
      have ne_b36_b40 : b36 ≠ b40 := Nat.ne_of_lt (Nat.lt_of_lt_of_le V_b36.lt (Nat.le_of_eq gq40.symm))
      have ne_b37_b40 : b37 ≠ b40 := Nat.ne_of_lt (Nat.lt_of_lt_of_le E_b37.lt (Nat.le_of_eq gq40.symm))
      have g_b40 : n0 ≤ b40 := Nat.le_trans Zs (Nat.le_of_eq gq40.symm)
      have V_b34 := V_b34.ext E40
      have V_b35 := V_b35.ext E40
      have V_b36 := V_b36.ext E40
      have E_b37 := E_b37.ext E40
      have F_states_b37 := F_states_b37.ext E40
      have Zs := Nat.le_trans Zs E40.1
      have E_b40 := A40
      have F_states_b40 : Fld Z h40 b40 "com/example/processes_as_trees/processesastrees/StateTuple" "states" "[I" .null := D40 (Or.inr (hw _ (List.mem_of_getElem? (i := 20) rfl))) (ty := (.array .int)) (by decide)
      refine own_by (B := T40.setTop (mkF m 153 #[.val (.int i0), .val (.int i1), .val (.int i2), .val (.int i3), .val (.int i4), .val (.int (2 : Int32)), .val (.ref b34), .val (.ref b35), .val (.ref b36), .val (.int i2), .val (.int (1 : Int32)), .val (.int (own_fin (own_mix (own_mix (2 : Int32) i1) i2))), .unset, .unset] [(.ref b40)])) st40 ?_
      refine own_by (B := T40.setTop (mkF m 154 #[.val (.int i0), .val (.int i1), .val (.int i2), .val (.int i3), .val (.int i4), .val (.int (2 : Int32)), .val (.ref b34), .val (.ref b35), .val (.ref b36), .val (.int i2), .val (.int (1 : Int32)), .val (.int (own_fin (own_mix (own_mix (2 : Int32) i1) i2))), .unset, .unset] [(.ref b40), (.ref b40)])) (fun t k => XS.dup X40.here hx rfl (hb hby at_153) rfl rfl k) ?_
      refine own_by (B := T40.setTop (mkF m 156 #[.val (.int i0), .val (.int i1), .val (.int i2), .val (.int i3), .val (.int i4), .val (.int (2 : Int32)), .val (.ref b34), .val (.ref b35), .val (.ref b36), .val (.int i2), .val (.int (1 : Int32)), .val (.int (own_fin (own_mix (own_mix (2 : Int32) i1) i2))), .unset, .unset] [(.ref b35), (.ref b40), (.ref b40)])) (fun t k => XS.aload X40.here hx rfl (hb hby at_154) rfl rfl k) ?_
      obtain ⟨_, _, ⟨T41, L41, k41, n41⟩, -, X41, ⟨Lc41, hQ41, l41, y41, z41⟩, st41⟩ := X40.specialBack hx (y := (⟨"com/example/processes_as_trees/processesastrees/StateTuple", "<init>", "([I)V"⟩ : MethodName)) rfl hown (mvT hZ (hw _ (List.mem_of_getElem? (i := 8) rfl))) (mvT hZ (hw _ (List.mem_of_getElem? (i := 9) rfl))) (mvT hZ (hw _ (List.mem_of_getElem? (i := 10) rfl))) (by decide) (backOf (W := 1) (rmI l Z a0 hw [] b40 b35 h40 n0 Zs E_b40 F_states_b40 g_b40) hZ (hw _ (List.mem_of_getElem? (i := 10) rfl)) (hw _ (List.mem_of_getElem? (i := 7) rfl)) (by decide) (by decide)) (g := (mkF m 156 #[.val (.int i0), .val (.int i1), .val (.int i2), .val (.int i3), .val (.int i4), .val (.int (2 : Int32)), .val (.ref b34), .val (.ref b35), .val (.ref b36), .val (.int i2), .val (.int (1 : Int32)), .val (.int (own_fin (own_mix (own_mix (2 : Int32) i1) i2))), .unset, .unset] [(.ref b35), (.ref b40), (.ref b40)])) rfl (by rw [hml]; rfl) (Steps.refl _) (a := b40) (argsL := [(.ref b35)]) (rest := [(.ref b40)]) (lenOf own_pd2 rfl) rfl (by show 2 * 0 + _ ≤ _; exact Nat.le_of_eq rfl) (hb hby at_156) (fun _ _ => ⟨rfl, e40, (by decide : 5 + 0 ≤ _), (by decide : 8 + 0 ≤ _)⟩)
      dsimp only [Pt.U, Pt.locs, Pt.cells, Pt.slots] at X41 l41 y41 z41 st41 hQ41
      subst l41 y41 z41
      obtain ⟨rfl, Nq41, Kc41, Fc41⟩ := hQ41
      have Nf := Fr.app Nf Nq41
      have V_b34 := V_b34.keep Kc41 (ninS ne_b34_b40 nin0)
      have V_b35 := V_b35.keep Kc41 (ninS ne_b35_b40 nin0)
      have V_b36 := V_b36.keep Kc41 (ninS ne_b36_b40 nin0)
      have E_b37 := E_b37.keep Kc41
      have F_states_b37 := F_states_b37.keep Kc41 (ninS ne_b37_b40 nin0)
      have E_b40 := E_b40.keep Kc41
      have Zs := Nat.le_trans Zs Kc41.1
      have F_states_b40 := Fc41
      refine own_by (B := T41.setTop (mkF m 159 #[.val (.int i0), .val (.int i1), .val (.int i2), .val (.int i3), .val (.int i4), .val (.int (2 : Int32)), .val (.ref b34), .val (.ref b35), .val (.ref b36), .val (.int i2), .val (.int (1 : Int32)), .val (.int (own_fin (own_mix (own_mix (2 : Int32) i1) i2))), .unset, .unset] [(.ref b40)])) (fun t k => st41.trans k) ?_
      obtain ⟨cq42, kq42, q42a, q42b, q42c⟩ := isOf hZ rfl E_b40
      obtain ⟨_, _, ⟨T42, L42, k42, n42⟩, -, X42, ⟨Lc42, hQ42, l42, y42, z42⟩, st42⟩ := X41.virtualBack hx (y := (⟨"com/example/processes_as_trees/processesastrees/StateTuple", "hashCode", "()I"⟩ : MethodName)) (z := (⟨"com/example/processes_as_trees/processesastrees/StateTuple", "hashCode", "()I"⟩ : MethodName)) hown (mvT hZ (hw _ (List.mem_of_getElem? (i := 21) rfl))) (mvT hZ (hw _ (List.mem_of_getElem? (i := 22) rfl))) (notFace_of_selects (args := #[]) (mvT hZ (hw _ (List.mem_of_getElem? (i := 24) rfl)))) (mvT hZ (hw _ (List.mem_of_getElem? (i := 24) rfl))) (mvT hZ (hw _ (List.mem_of_getElem? (i := 23) rfl))) (by decide) (backOf (W := 0) (rmH2 l Z a0 hw [] b40 b35 f35 i1 i2 T41.heap n0 Zs F_states_b40 V_b35 hf35_0 hf35_1) hZ (hw _ (List.mem_of_getElem? (i := 25) rfl)) (hw _ (List.mem_of_getElem? (i := 7) rfl)) (by decide) (by decide)) q42a q42c (g := (mkF m 159 #[.val (.int i0), .val (.int i1), .val (.int i2), .val (.int i3), .val (.int i4), .val (.int (2 : Int32)), .val (.ref b34), .val (.ref b35), .val (.ref b36), .val (.int i2), .val (.int (1 : Int32)), .val (.int (own_fin (own_mix (own_mix (2 : Int32) i1) i2))), .unset, .unset] [(.ref b40)])) rfl (by rw [hml]; rfl) (Steps.refl _) (argsL := []) (rest := []) (lenOf own_pd3 rfl) rfl (by show 2 * 0 + _ ≤ _; exact Nat.le_of_eq rfl) (hb hby at_159) (fun _ _ => ⟨rfl, rfl, (by decide : 5 + 0 ≤ _), (by decide : 8 + 0 ≤ _)⟩)
      dsimp only [Pt.U, Pt.locs, Pt.cells, Pt.slots] at X42 l42 y42 z42 st42 hQ42
      subst l42 y42 z42
      obtain ⟨rfl, Nq42, hp42⟩ := hQ42
      have Nf := Fr.app Nf Nq42
      have ec42 : T42.heap = T41.heap := hp42
      refine own_by (B := T42.setTop (mkF m 162 #[.val (.int i0), .val (.int i1), .val (.int i2), .val (.int i3), .val (.int i4), .val (.int (2 : Int32)), .val (.ref b34), .val (.ref b35), .val (.ref b36), .val (.int i2), .val (.int (1 : Int32)), .val (.int (own_fin (own_mix (own_mix (2 : Int32) i1) i2))), .unset, .unset] [(.int (own_fin (own_mix (own_mix (2 : Int32) i1) i2)))])) (fun t k => st42.trans k) ?_
      refine own_by (B := T42.setTop (mkF m 164 #[.val (.int i0), .val (.int i1), .val (.int i2), .val (.int i3), .val (.int i4), .val (.int (2 : Int32)), .val (.ref b34), .val (.ref b35), .val (.ref b36), .val (.int i2), .val (.int (1 : Int32)), .val (.int (own_fin (own_mix (own_mix (2 : Int32) i1) i2))), .val (.int (own_fin (own_mix (own_mix (2 : Int32) i1) i2))), .unset] [])) (fun t k => XS.istore X42.here hx rfl (hb hby at_162) rfl (l' := #[.val (.int i0), .val (.int i1), .val (.int i2), .val (.int i3), .val (.int i4), .val (.int (2 : Int32)), .val (.ref b34), .val (.ref b35), .val (.ref b36), .val (.int i2), .val (.int (1 : Int32)), .val (.int (own_fin (own_mix (own_mix (2 : Int32) i1) i2))), .val (.int (own_fin (own_mix (own_mix (2 : Int32) i1) i2))), .unset]) rfl k) ?_
      obtain ⟨T43, h43, X43, e43, E43, A43, D43, -, st43⟩ := newO X42 hx hZ hown (hw _ (List.mem_of_getElem? (i := 5) rfl)) (hw _ (List.mem_of_getElem? (i := 6) rfl)) (hw _ (List.mem_of_getElem? (i := 7) rfl)) ec42 (g := (mkF m 164 #[.val (.int i0), .val (.int i1), .val (.int i2), .val (.int i3), .val (.int i4), .val (.int (2 : Int32)), .val (.ref b34), .val (.ref b35), .val (.ref b36), .val (.int i2), .val (.int (1 : Int32)), .val (.int (own_fin (own_mix (own_mix (2 : Int32) i1) i2))), .val (.int (own_fin (own_mix (own_mix (2 : Int32) i1) i2))), .unset] [])) rfl (hb hby at_164) (by decide) (by decide)
      obtain ⟨b43, gq43⟩ : ∃ z, z = T41.heap.size := ⟨_, rfl⟩
      rw [← gq43] at A43 D43 st43
      have ne_b34_b43 : b34 ≠ b43 := Nat.ne_of_lt (Nat.lt_of_lt_of_le V_b34.lt (Nat.le_of_eq gq43.symm))
      have ne_b35_b43 : b35 ≠ b43 := Nat.ne_of_lt (Nat.lt_of_lt_of_le V_b35.lt (Nat.le_of_eq gq43.symm))
      have ne_b36_b43 : b36 ≠ b43 := Nat.ne_of_lt (Nat.lt_of_lt_of_le V_b36.lt (Nat.le_of_eq gq43.symm))
      have ne_b37_b43 : b37 ≠ b43 := Nat.ne_of_lt (Nat.lt_of_lt_of_le E_b37.lt (Nat.le_of_eq gq43.symm))
      have ne_b40_b43 : b40 ≠ b43 := Nat.ne_of_lt (Nat.lt_of_lt_of_le E_b40.lt (Nat.le_of_eq gq43.symm))
      have g_b43 : n0 ≤ b43 := Nat.le_trans Zs (Nat.le_of_eq gq43.symm)
      have V_b34 := V_b34.ext E43
      have V_b35 := V_b35.ext E43
      have V_b36 := V_b36.ext E43
      have E_b37 := E_b37.ext E43
      have F_states_b37 := F_states_b37.ext E43
      have E_b40 := E_b40.ext E43
      have F_states_b40 := F_states_b40.ext E43
      have Zs := Nat.le_trans Zs E43.1
      have E_b43 := A43
      have F_states_b43 : Fld Z h43 b43 "com/example/processes_as_trees/processesastrees/StateTuple" "states" "[I" .null := D43 (Or.inr (hw _ (List.mem_of_getElem? (i := 20) rfl))) (ty := (.array .int)) (by decide)
      refine own_by (B := T43.setTop (mkF m 167 #[.val (.int i0), .val (.int i1), .val (.int i2), .val (.int i3), .val (.int i4), .val (.int (2 : Int32)), .val (.ref b34), .val (.ref b35), .val (.ref b36), .val (.int i2), .val (.int (1 : Int32)), .val (.int (own_fin (own_mix (own_mix (2 : Int32) i1) i2))), .val (.int (own_fin (own_mix (own_mix (2 : Int32) i1) i2))), .unset] [(.ref b43)])) st43 ?_
      refine own_by (B := T43.setTop (mkF m 168 #[.val (.int i0), .val (.int i1), .val (.int i2), .val (.int i3), .val (.int i4), .val (.int (2 : Int32)), .val (.ref b34), .val (.ref b35), .val (.ref b36), .val (.int i2), .val (.int (1 : Int32)), .val (.int (own_fin (own_mix (own_mix (2 : Int32) i1) i2))), .val (.int (own_fin (own_mix (own_mix (2 : Int32) i1) i2))), .unset] [(.ref b43), (.ref b43)])) (fun t k => XS.dup X43.here hx rfl (hb hby at_167) rfl rfl k) ?_
      refine own_by (B := T43.setTop (mkF m 170 #[.val (.int i0), .val (.int i1), .val (.int i2), .val (.int i3), .val (.int i4), .val (.int (2 : Int32)), .val (.ref b34), .val (.ref b35), .val (.ref b36), .val (.int i2), .val (.int (1 : Int32)), .val (.int (own_fin (own_mix (own_mix (2 : Int32) i1) i2))), .val (.int (own_fin (own_mix (own_mix (2 : Int32) i1) i2))), .unset] [(.ref b36), (.ref b43), (.ref b43)])) (fun t k => XS.aload X43.here hx rfl (hb hby at_168) rfl rfl k) ?_
      obtain ⟨_, _, ⟨T44, L44, k44, n44⟩, -, X44, ⟨Lc44, hQ44, l44, y44, z44⟩, st44⟩ := X43.specialBack hx (y := (⟨"com/example/processes_as_trees/processesastrees/StateTuple", "<init>", "([I)V"⟩ : MethodName)) rfl hown (mvT hZ (hw _ (List.mem_of_getElem? (i := 8) rfl))) (mvT hZ (hw _ (List.mem_of_getElem? (i := 9) rfl))) (mvT hZ (hw _ (List.mem_of_getElem? (i := 10) rfl))) (by decide) (backOf (W := 1) (rmI l Z a0 hw [] b43 b36 h43 n0 Zs E_b43 F_states_b43 g_b43) hZ (hw _ (List.mem_of_getElem? (i := 10) rfl)) (hw _ (List.mem_of_getElem? (i := 7) rfl)) (by decide) (by decide)) (g := (mkF m 170 #[.val (.int i0), .val (.int i1), .val (.int i2), .val (.int i3), .val (.int i4), .val (.int (2 : Int32)), .val (.ref b34), .val (.ref b35), .val (.ref b36), .val (.int i2), .val (.int (1 : Int32)), .val (.int (own_fin (own_mix (own_mix (2 : Int32) i1) i2))), .val (.int (own_fin (own_mix (own_mix (2 : Int32) i1) i2))), .unset] [(.ref b36), (.ref b43), (.ref b43)])) rfl (by rw [hml]; rfl) (Steps.refl _) (a := b43) (argsL := [(.ref b36)]) (rest := [(.ref b43)]) (lenOf own_pd2 rfl) rfl (by show 2 * 0 + _ ≤ _; exact Nat.le_of_eq rfl) (hb hby at_170) (fun _ _ => ⟨rfl, e43, (by decide : 6 + 0 ≤ _), (by decide : 9 + 0 ≤ _)⟩)
      dsimp only [Pt.U, Pt.locs, Pt.cells, Pt.slots] at X44 l44 y44 z44 st44 hQ44
      subst l44 y44 z44
      obtain ⟨rfl, Nq44, Kc44, Fc44⟩ := hQ44
      have Nf := Fr.app Nf Nq44
      have V_b34 := V_b34.keep Kc44 (ninS ne_b34_b43 nin0)
      have V_b35 := V_b35.keep Kc44 (ninS ne_b35_b43 nin0)
      have V_b36 := V_b36.keep Kc44 (ninS ne_b36_b43 nin0)
      have E_b37 := E_b37.keep Kc44
      have F_states_b37 := F_states_b37.keep Kc44 (ninS ne_b37_b43 nin0)
      have E_b40 := E_b40.keep Kc44
      have F_states_b40 := F_states_b40.keep Kc44 (ninS ne_b40_b43 nin0)
      have E_b43 := E_b43.keep Kc44
      have Zs := Nat.le_trans Zs Kc44.1
      have F_states_b43 := Fc44
      refine own_by (B := T44.setTop (mkF m 173 #[.val (.int i0), .val (.int i1), .val (.int i2), .val (.int i3), .val (.int i4), .val (.int (2 : Int32)), .val (.ref b34), .val (.ref b35), .val (.ref b36), .val (.int i2), .val (.int (1 : Int32)), .val (.int (own_fin (own_mix (own_mix (2 : Int32) i1) i2))), .val (.int (own_fin (own_mix (own_mix (2 : Int32) i1) i2))), .unset] [(.ref b43)])) (fun t k => st44.trans k) ?_
      obtain ⟨cq45, kq45, q45a, q45b, q45c⟩ := isOf hZ rfl E_b43
      obtain ⟨_, _, ⟨T45, L45, k45, n45⟩, -, X45, ⟨Lc45, hQ45, l45, y45, z45⟩, st45⟩ := X44.virtualBack hx (y := (⟨"com/example/processes_as_trees/processesastrees/StateTuple", "hashCode", "()I"⟩ : MethodName)) (z := (⟨"com/example/processes_as_trees/processesastrees/StateTuple", "hashCode", "()I"⟩ : MethodName)) hown (mvT hZ (hw _ (List.mem_of_getElem? (i := 21) rfl))) (mvT hZ (hw _ (List.mem_of_getElem? (i := 22) rfl))) (notFace_of_selects (args := #[]) (mvT hZ (hw _ (List.mem_of_getElem? (i := 24) rfl)))) (mvT hZ (hw _ (List.mem_of_getElem? (i := 24) rfl))) (mvT hZ (hw _ (List.mem_of_getElem? (i := 23) rfl))) (by decide) (backOf (W := 0) (rmH2 l Z a0 hw [] b43 b36 f36 i1 i4 T44.heap n0 Zs F_states_b43 V_b36 hf36_0 hf36_1) hZ (hw _ (List.mem_of_getElem? (i := 25) rfl)) (hw _ (List.mem_of_getElem? (i := 7) rfl)) (by decide) (by decide)) q45a q45c (g := (mkF m 173 #[.val (.int i0), .val (.int i1), .val (.int i2), .val (.int i3), .val (.int i4), .val (.int (2 : Int32)), .val (.ref b34), .val (.ref b35), .val (.ref b36), .val (.int i2), .val (.int (1 : Int32)), .val (.int (own_fin (own_mix (own_mix (2 : Int32) i1) i2))), .val (.int (own_fin (own_mix (own_mix (2 : Int32) i1) i2))), .unset] [(.ref b43)])) rfl (by rw [hml]; rfl) (Steps.refl _) (argsL := []) (rest := []) (lenOf own_pd3 rfl) rfl (by show 2 * 0 + _ ≤ _; exact Nat.le_of_eq rfl) (hb hby at_173) (fun _ _ => ⟨rfl, rfl, (by decide : 6 + 0 ≤ _), (by decide : 9 + 0 ≤ _)⟩)
      dsimp only [Pt.U, Pt.locs, Pt.cells, Pt.slots] at X45 l45 y45 z45 st45 hQ45
      subst l45 y45 z45
      obtain ⟨rfl, Nq45, hp45⟩ := hQ45
      have Nf := Fr.app Nf Nq45
      have ec45 : T45.heap = T44.heap := hp45
      refine own_by (B := T45.setTop (mkF m 176 #[.val (.int i0), .val (.int i1), .val (.int i2), .val (.int i3), .val (.int i4), .val (.int (2 : Int32)), .val (.ref b34), .val (.ref b35), .val (.ref b36), .val (.int i2), .val (.int (1 : Int32)), .val (.int (own_fin (own_mix (own_mix (2 : Int32) i1) i2))), .val (.int (own_fin (own_mix (own_mix (2 : Int32) i1) i2))), .unset] [(.int (own_fin (own_mix (own_mix (2 : Int32) i1) i4)))])) (fun t k => st45.trans k) ?_
      refine own_by (B := T45.setTop (mkF m 178 #[.val (.int i0), .val (.int i1), .val (.int i2), .val (.int i3), .val (.int i4), .val (.int (2 : Int32)), .val (.ref b34), .val (.ref b35), .val (.ref b36), .val (.int i2), .val (.int (1 : Int32)), .val (.int (own_fin (own_mix (own_mix (2 : Int32) i1) i2))), .val (.int (own_fin (own_mix (own_mix (2 : Int32) i1) i2))), .val (.int (own_fin (own_mix (own_mix (2 : Int32) i1) i4)))] [])) (fun t k => XS.istore X45.here hx rfl (hb hby at_176) rfl (l' := #[.val (.int i0), .val (.int i1), .val (.int i2), .val (.int i3), .val (.int i4), .val (.int (2 : Int32)), .val (.ref b34), .val (.ref b35), .val (.ref b36), .val (.int i2), .val (.int (1 : Int32)), .val (.int (own_fin (own_mix (own_mix (2 : Int32) i1) i2))), .val (.int (own_fin (own_mix (own_mix (2 : Int32) i1) i2))), .val (.int (own_fin (own_mix (own_mix (2 : Int32) i1) i4)))]) rfl k) ?_
      refine own_by (B := T45.setTop (mkF m 180 #[.val (.int i0), .val (.int i1), .val (.int i2), .val (.int i3), .val (.int i4), .val (.int (2 : Int32)), .val (.ref b34), .val (.ref b35), .val (.ref b36), .val (.int i2), .val (.int (1 : Int32)), .val (.int (own_fin (own_mix (own_mix (2 : Int32) i1) i2))), .val (.int (own_fin (own_mix (own_mix (2 : Int32) i1) i2))), .val (.int (own_fin (own_mix (own_mix (2 : Int32) i1) i4)))] [(.int (own_fin (own_mix (own_mix (2 : Int32) i1) i2)))])) (fun t k => XS.iload X45.here hx rfl (hb hby at_178) rfl k) ?_
      refine own_by (B := T45.setTop (mkF m 182 #[.val (.int i0), .val (.int i1), .val (.int i2), .val (.int i3), .val (.int i4), .val (.int (2 : Int32)), .val (.ref b34), .val (.ref b35), .val (.ref b36), .val (.int i2), .val (.int (1 : Int32)), .val (.int (own_fin (own_mix (own_mix (2 : Int32) i1) i2))), .val (.int (own_fin (own_mix (own_mix (2 : Int32) i1) i2))), .val (.int (own_fin (own_mix (own_mix (2 : Int32) i1) i4)))] [(.int (own_fin (own_mix (own_mix (2 : Int32) i1) i2))), (.int (own_fin (own_mix (own_mix (2 : Int32) i1) i2)))])) (fun t k => XS.iload X45.here hx rfl (hb hby at_180) rfl k) ?_
      refine own_by (B := T45.setTop (mkF m 185 #[.val (.int i0), .val (.int i1), .val (.int i2), .val (.int i3), .val (.int i4), .val (.int (2 : Int32)), .val (.ref b34), .val (.ref b35), .val (.ref b36), .val (.int i2), .val (.int (1 : Int32)), .val (.int (own_fin (own_mix (own_mix (2 : Int32) i1) i2))), .val (.int (own_fin (own_mix (own_mix (2 : Int32) i1) i2))), .val (.int (own_fin (own_mix (own_mix (2 : Int32) i1) i4)))] [])) (fun t k => XS.icmpNo X45.here hx rfl (hb hby at_182) rfl (teq rfl).2 k) ?_
      refine own_by (B := T45.setTop (mkF m 187 #[.val (.int i0), .val (.int i1), .val (.int i2), .val (.int i3), .val (.int i4), .val (.int (2 : Int32)), .val (.ref b34), .val (.ref b35), .val (.ref b36), .val (.int i2), .val (.int (1 : Int32)), .val (.int (own_fin (own_mix (own_mix (2 : Int32) i1) i2))), .val (.int (own_fin (own_mix (own_mix (2 : Int32) i1) i2))), .val (.int (own_fin (own_mix (own_mix (2 : Int32) i1) i4)))] [(.int (own_fin (own_mix (own_mix (2 : Int32) i1) i2)))])) (fun t k => XS.iload X45.here hx rfl (hb hby at_185) rfl k) ?_
      refine own_by (B := T45.setTop (mkF m 189 #[.val (.int i0), .val (.int i1), .val (.int i2), .val (.int i3), .val (.int i4), .val (.int (2 : Int32)), .val (.ref b34), .val (.ref b35), .val (.ref b36), .val (.int i2), .val (.int (1 : Int32)), .val (.int (own_fin (own_mix (own_mix (2 : Int32) i1) i2))), .val (.int (own_fin (own_mix (own_mix (2 : Int32) i1) i2))), .val (.int (own_fin (own_mix (own_mix (2 : Int32) i1) i4)))] [(.int (own_fin (own_mix (own_mix (2 : Int32) i1) i4))), (.int (own_fin (own_mix (own_mix (2 : Int32) i1) i2)))])) (fun t k => XS.iload X45.here hx rfl (hb hby at_187) rfl k) ?_
      refine own_by (B := T45.setTop (mkF m 192 #[.val (.int i0), .val (.int i1), .val (.int i2), .val (.int i3), .val (.int i4), .val (.int (2 : Int32)), .val (.ref b34), .val (.ref b35), .val (.ref b36), .val (.int i2), .val (.int (1 : Int32)), .val (.int (own_fin (own_mix (own_mix (2 : Int32) i1) i2))), .val (.int (own_fin (own_mix (own_mix (2 : Int32) i1) i2))), .val (.int (own_fin (own_mix (own_mix (2 : Int32) i1) i4)))] [])) (fun t k => XS.icmpNo X45.here hx rfl (hb hby at_189) rfl (teq (by rw [hc126] : (own_fin (own_mix (own_mix (2 : Int32) i1) i2)) = (own_fin (own_mix (own_mix (2 : Int32) i1) i4)))).2 k) ?_
      refine own_by (B := T45.setTop (mkF m 193 #[.val (.int i0), .val (.int i1), .val (.int i2), .val (.int i3), .val (.int i4), .val (.int (2 : Int32)), .val (.ref b34), .val (.ref b35), .val (.ref b36), .val (.int i2), .val (.int (1 : Int32)), .val (.int (own_fin (own_mix (own_mix (2 : Int32) i1) i2))), .val (.int (own_fin (own_mix (own_mix (2 : Int32) i1) i2))), .val (.int (own_fin (own_mix (own_mix (2 : Int32) i1) i4)))] [(.int (1 : Int32))])) (fun t k => XS.iconst X45.here hx rfl (hb hby at_192) k) ?_
      refine own_by (B := T45.setTop (mkF m 197 #[.val (.int i0), .val (.int i1), .val (.int i2), .val (.int i3), .val (.int i4), .val (.int (2 : Int32)), .val (.ref b34), .val (.ref b35), .val (.ref b36), .val (.int i2), .val (.int (1 : Int32)), .val (.int (own_fin (own_mix (own_mix (2 : Int32) i1) i2))), .val (.int (own_fin (own_mix (own_mix (2 : Int32) i1) i2))), .val (.int (own_fin (own_mix (own_mix (2 : Int32) i1) i4)))] [(.int (1 : Int32))])) (fun t k => XS.goto X45.here hx rfl (pc0 := 193) (pc' := 197) rfl (hb hby at_193) (by decide) (by decide) k) ?_
      refine own_by (B := T45.setTop (mkF m 199 #[.val (.int i0), .val (.int i1), .val (.int i2), .val (.int i3), .val (.int i4), .val (.int (2 : Int32)), .val (.ref b34), .val (.ref b35), .val (.ref b36), .val (.int i2), .val (.int (1 : Int32)), .val (.int (own_fin (own_mix (own_mix (2 : Int32) i1) i2))), .val (.int (own_fin (own_mix (own_mix (2 : Int32) i1) i2))), .val (.int (own_fin (own_mix (own_mix (2 : Int32) i1) i4)))] [(.int (1 : Int32)), (.int (1 : Int32))])) (fun t k => XS.iload X45.here hx rfl (hb hby at_197) rfl k) ?_
      refine own_by (B := T45.setTop (mkF m 202 #[.val (.int i0), .val (.int i1), .val (.int i2), .val (.int i3), .val (.int i4), .val (.int (2 : Int32)), .val (.ref b34), .val (.ref b35), .val (.ref b36), .val (.int i2), .val (.int (1 : Int32)), .val (.int (own_fin (own_mix (own_mix (2 : Int32) i1) i2))), .val (.int (own_fin (own_mix (own_mix (2 : Int32) i1) i2))), .val (.int (own_fin (own_mix (own_mix (2 : Int32) i1) i4)))] [])) (fun t k => XS.icmpNo X45.here hx rfl (hb hby at_199) rfl (teq (by decide)).2 k) ?_
      refine own_by (B := T45.setTop (mkF m 203 #[.val (.int i0), .val (.int i1), .val (.int i2), .val (.int i3), .val (.int i4), .val (.int (2 : Int32)), .val (.ref b34), .val (.ref b35), .val (.ref b36), .val (.int i2), .val (.int (1 : Int32)), .val (.int (own_fin (own_mix (own_mix (2 : Int32) i1) i2))), .val (.int (own_fin (own_mix (own_mix (2 : Int32) i1) i2))), .val (.int (own_fin (own_mix (own_mix (2 : Int32) i1) i4)))] [(.int (1 : Int32))])) (fun t k => XS.iconst X45.here hx rfl (hb hby at_202) k) ?_
      refine own_by (B := T45.setTop (mkF m 207 #[.val (.int i0), .val (.int i1), .val (.int i2), .val (.int i3), .val (.int i4), .val (.int (2 : Int32)), .val (.ref b34), .val (.ref b35), .val (.ref b36), .val (.int i2), .val (.int (1 : Int32)), .val (.int (own_fin (own_mix (own_mix (2 : Int32) i1) i2))), .val (.int (own_fin (own_mix (own_mix (2 : Int32) i1) i2))), .val (.int (own_fin (own_mix (own_mix (2 : Int32) i1) i4)))] [(.int (1 : Int32))])) (fun t k => XS.goto X45.here hx rfl (pc0 := 203) (pc' := 207) rfl (hb hby at_203) (by decide) (by decide) k) ?_
      exact own_end X45 (v := some (.int (1 : Int32))) (fun h => by rw [Bd.returns] at h; cases h) (BodyLoose.notSynchronized Bd) (Q := (Q_rm0 Z i0 i1 i2 i3 i4 h0 n0)) (fun fs hr => retN X45 hx (t := .boolean) Bd.returns (by simp) (hb hby at_207) hr) (show (Q_rm0 Z i0 i1 i2 i3 i4 h0 n0) _ T45.heap _ from (by rw [ec45]; exact ⟨rfl, Nf⟩)) (by decide) (by decide)
    · refine own_by (B := T36.setTop (mkF m 133 #[.val (.int i0), .val (.int i1), .val (.int i2), .val (.int i3), .val (.int i4), .val (.int (2 : Int32)), .val (.ref b34), .val (.ref b35), .val (.ref b36), .val (.int i2), .unset, .unset, .unset, .unset] [])) (fun t k => XS.icmpYes X36.here hx rfl (pc0 := 126) (pc' := 133) rfl (hb hby at_126) rfl (feq hc126).2 (by decide) (by decide) k) ?_
      refine own_by (B := T36.setTop (mkF m 134 #[.val (.int i0), .val (.int i1), .val (.int i2), .val (.int i3), .val (.int i4), .val (.int (2 : Int32)), .val (.ref b34), .val (.ref b35), .val (.ref b36), .val (.int i2), .unset, .unset, .unset, .unset] [(.int (0 : Int32))])) (fun t k => XS.iconst X36.here hx rfl (hb hby at_133) k) ?_
      refine own_by (B := T36.setTop (mkF m 136 #[.val (.int i0), .val (.int i1), .val (.int i2), .val (.int i3), .val (.int i4), .val (.int (2 : Int32)), .val (.ref b34), .val (.ref b35), .val (.ref b36), .val (.int i2), .val (.int (0 : Int32)), .unset, .unset, .unset] [])) (fun t k => XS.istore X36.here hx rfl (hb hby at_134) rfl (l' := #[.val (.int i0), .val (.int i1), .val (.int i2), .val (.int i3), .val (.int i4), .val (.int (2 : Int32)), .val (.ref b34), .val (.ref b35), .val (.ref b36), .val (.int i2), .val (.int (0 : Int32)), .unset, .unset, .unset]) rfl k) ?_
      obtain ⟨T46, h46, X46, e46, E46, A46, D46, -, st46⟩ := newO X36 hx hZ hown (hw _ (List.mem_of_getElem? (i := 5) rfl)) (hw _ (List.mem_of_getElem? (i := 6) rfl)) (hw _ (List.mem_of_getElem? (i := 7) rfl)) rfl (g := (mkF m 136 #[.val (.int i0), .val (.int i1), .val (.int i2), .val (.int i3), .val (.int i4), .val (.int (2 : Int32)), .val (.ref b34), .val (.ref b35), .val (.ref b36), .val (.int i2), .val (.int (0 : Int32)), .unset, .unset, .unset] [])) rfl (hb hby at_136) (by decide) (by decide)
      obtain ⟨b46, gq46⟩ : ∃ z, z = T36.heap.size := ⟨_, rfl⟩
      rw [← gq46] at A46 D46 st46
      have ne_b34_b46 : b34 ≠ b46 := Nat.ne_of_lt (Nat.lt_of_lt_of_le V_b34.lt (Nat.le_of_eq gq46.symm))
      have ne_b35_b46 : b35 ≠ b46 := Nat.ne_of_lt (Nat.lt_of_lt_of_le V_b35.lt (Nat.le_of_eq gq46.symm))
      have ne_b36_b46 : b36 ≠ b46 := Nat.ne_of_lt (Nat.lt_of_lt_of_le V_b36.lt (Nat.le_of_eq gq46.symm))
      have g_b46 : n0 ≤ b46 := Nat.le_trans Zs (Nat.le_of_eq gq46.symm)
      have V_b34 := V_b34.ext E46
      have V_b35 := V_b35.ext E46
      have V_b36 := V_b36.ext E46
      have Zs := Nat.le_trans Zs E46.1
      have E_b46 := A46
      have F_states_b46 : Fld Z h46 b46 "com/example/processes_as_trees/processesastrees/StateTuple" "states" "[I" .null := D46 (Or.inr (hw _ (List.mem_of_getElem? (i := 20) rfl))) (ty := (.array .int)) (by decide)
      refine own_by (B := T46.setTop (mkF m 139 #[.val (.int i0), .val (.int i1), .val (.int i2), .val (.int i3), .val (.int i4), .val (.int (2 : Int32)), .val (.ref b34), .val (.ref b35), .val (.ref b36), .val (.int i2), .val (.int (0 : Int32)), .unset, .unset, .unset] [(.ref b46)])) st46 ?_
      refine own_by (B := T46.setTop (mkF m 140 #[.val (.int i0), .val (.int i1), .val (.int i2), .val (.int i3), .val (.int i4), .val (.int (2 : Int32)), .val (.ref b34), .val (.ref b35), .val (.ref b36), .val (.int i2), .val (.int (0 : Int32)), .unset, .unset, .unset] [(.ref b46), (.ref b46)])) (fun t k => XS.dup X46.here hx rfl (hb hby at_139) rfl rfl k) ?_
      refine own_by (B := T46.setTop (mkF m 142 #[.val (.int i0), .val (.int i1), .val (.int i2), .val (.int i3), .val (.int i4), .val (.int (2 : Int32)), .val (.ref b34), .val (.ref b35), .val (.ref b36), .val (.int i2), .val (.int (0 : Int32)), .unset, .unset, .unset] [(.ref b34), (.ref b46), (.ref b46)])) (fun t k => XS.aload X46.here hx rfl (hb hby at_140) rfl rfl k) ?_
      obtain ⟨_, _, ⟨T47, L47, k47, n47⟩, -, X47, ⟨Lc47, hQ47, l47, y47, z47⟩, st47⟩ := X46.specialBack hx (y := (⟨"com/example/processes_as_trees/processesastrees/StateTuple", "<init>", "([I)V"⟩ : MethodName)) rfl hown (mvT hZ (hw _ (List.mem_of_getElem? (i := 8) rfl))) (mvT hZ (hw _ (List.mem_of_getElem? (i := 9) rfl))) (mvT hZ (hw _ (List.mem_of_getElem? (i := 10) rfl))) (by decide) (backOf (W := 1) (rmI l Z a0 hw [] b46 b34 h46 n0 Zs E_b46 F_states_b46 g_b46) hZ (hw _ (List.mem_of_getElem? (i := 10) rfl)) (hw _ (List.mem_of_getElem? (i := 7) rfl)) (by decide) (by decide)) (g := (mkF m 142 #[.val (.int i0), .val (.int i1), .val (.int i2), .val (.int i3), .val (.int i4), .val (.int (2 : Int32)), .val (.ref b34), .val (.ref b35), .val (.ref b36), .val (.int i2), .val (.int (0 : Int32)), .unset, .unset, .unset] [(.ref b34), (.ref b46), (.ref b46)])) rfl (by rw [hml]; rfl) (Steps.refl _) (a := b46) (argsL := [(.ref b34)]) (rest := [(.ref b46)]) (lenOf own_pd2 rfl) rfl (by show 2 * 0 + _ ≤ _; exact Nat.le_of_eq rfl) (hb hby at_142) (fun _ _ => ⟨rfl, e46, (by decide : 4 + 0 ≤ _), (by decide : 7 + 0 ≤ _)⟩)
      dsimp only [Pt.U, Pt.locs, Pt.cells, Pt.slots] at X47 l47 y47 z47 st47 hQ47
      subst l47 y47 z47
      obtain ⟨rfl, Nq47, Kc47, Fc47⟩ := hQ47
      have Nf := Fr.app Nf Nq47
      have V_b34 := V_b34.keep Kc47 (ninS ne_b34_b46 nin0)
      have V_b35 := V_b35.keep Kc47 (ninS ne_b35_b46 nin0)
      have V_b36 := V_b36.keep Kc47 (ninS ne_b36_b46 nin0)
      have E_b46 := E_b46.keep Kc47
      have Zs := Nat.le_trans Zs Kc47.1
      have F_states_b46 := Fc47
      refine own_by (B := T47.setTop (mkF m 145 #[.val (.int i0), .val (.int i1), .val (.int i2), .val (.int i3), .val (.int i4), .val (.int (2 : Int32)), .val (.ref b34), .val (.ref b35), .val (.ref b36), .val (.int i2), .val (.int (0 : Int32)), .unset, .unset, .unset] [(.ref b46)])) (fun t k => st47.trans k) ?_
      obtain ⟨cq48, kq48, q48a, q48b, q48c⟩ := isOf hZ rfl E_b46
      obtain ⟨_, _, ⟨T48, L48, k48, n48⟩, -, X48, ⟨Lc48, hQ48, l48, y48, z48⟩, st48⟩ := X47.virtualBack hx (y := (⟨"com/example/processes_as_trees/processesastrees/StateTuple", "hashCode", "()I"⟩ : MethodName)) (z := (⟨"com/example/processes_as_trees/processesastrees/StateTuple", "hashCode", "()I"⟩ : MethodName)) hown (mvT hZ (hw _ (List.mem_of_getElem? (i := 21) rfl))) (mvT hZ (hw _ (List.mem_of_getElem? (i := 22) rfl))) (notFace_of_selects (args := #[]) (mvT hZ (hw _ (List.mem_of_getElem? (i := 24) rfl)))) (mvT hZ (hw _ (List.mem_of_getElem? (i := 24) rfl))) (mvT hZ (hw _ (List.mem_of_getElem? (i := 23) rfl))) (by decide) (backOf (W := 0) (rmH2 l Z a0 hw [] b46 b34 f34 i1 i2 T47.heap n0 Zs F_states_b46 V_b34 hf34_0 hf34_1) hZ (hw _ (List.mem_of_getElem? (i := 25) rfl)) (hw _ (List.mem_of_getElem? (i := 7) rfl)) (by decide) (by decide)) q48a q48c (g := (mkF m 145 #[.val (.int i0), .val (.int i1), .val (.int i2), .val (.int i3), .val (.int i4), .val (.int (2 : Int32)), .val (.ref b34), .val (.ref b35), .val (.ref b36), .val (.int i2), .val (.int (0 : Int32)), .unset, .unset, .unset] [(.ref b46)])) rfl (by rw [hml]; rfl) (Steps.refl _) (argsL := []) (rest := []) (lenOf own_pd3 rfl) rfl (by show 2 * 0 + _ ≤ _; exact Nat.le_of_eq rfl) (hb hby at_145) (fun _ _ => ⟨rfl, rfl, (by decide : 4 + 0 ≤ _), (by decide : 7 + 0 ≤ _)⟩)
      dsimp only [Pt.U, Pt.locs, Pt.cells, Pt.slots] at X48 l48 y48 z48 st48 hQ48
      subst l48 y48 z48
      obtain ⟨rfl, Nq48, hp48⟩ := hQ48
      have Nf := Fr.app Nf Nq48
      have ec48 : T48.heap = T47.heap := hp48
      refine own_by (B := T48.setTop (mkF m 148 #[.val (.int i0), .val (.int i1), .val (.int i2), .val (.int i3), .val (.int i4), .val (.int (2 : Int32)), .val (.ref b34), .val (.ref b35), .val (.ref b36), .val (.int i2), .val (.int (0 : Int32)), .unset, .unset, .unset] [(.int (own_fin (own_mix (own_mix (2 : Int32) i1) i2)))])) (fun t k => st48.trans k) ?_
      refine own_by (B := T48.setTop (mkF m 150 #[.val (.int i0), .val (.int i1), .val (.int i2), .val (.int i3), .val (.int i4), .val (.int (2 : Int32)), .val (.ref b34), .val (.ref b35), .val (.ref b36), .val (.int i2), .val (.int (0 : Int32)), .val (.int (own_fin (own_mix (own_mix (2 : Int32) i1) i2))), .unset, .unset] [])) (fun t k => XS.istore X48.here hx rfl (hb hby at_148) rfl (l' := #[.val (.int i0), .val (.int i1), .val (.int i2), .val (.int i3), .val (.int i4), .val (.int (2 : Int32)), .val (.ref b34), .val (.ref b35), .val (.ref b36), .val (.int i2), .val (.int (0 : Int32)), .val (.int (own_fin (own_mix (own_mix (2 : Int32) i1) i2))), .unset, .unset]) rfl k) ?_
      obtain ⟨T49, h49, X49, e49, E49, A49, D49, -, st49⟩ := newO X48 hx hZ hown (hw _ (List.mem_of_getElem? (i := 5) rfl)) (hw _ (List.mem_of_getElem? (i := 6) rfl)) (hw _ (List.mem_of_getElem? (i := 7) rfl)) ec48 (g := (mkF m 150 #[.val (.int i0), .val (.int i1), .val (.int i2), .val (.int i3), .val (.int i4), .val (.int (2 : Int32)), .val (.ref b34), .val (.ref b35), .val (.ref b36), .val (.int i2), .val (.int (0 : Int32)), .val (.int (own_fin (own_mix (own_mix (2 : Int32) i1) i2))), .unset, .unset] [])) rfl (hb hby at_150) (by decide) (by decide)
      obtain ⟨b49, gq49⟩ : ∃ z, z = T47.heap.size := ⟨_, rfl⟩
      rw [← gq49] at A49 D49 st49
      have ne_b34_b49 : b34 ≠ b49 := Nat.ne_of_lt (Nat.lt_of_lt_of_le V_b34.lt (Nat.le_of_eq gq49.symm))
      have ne_b35_b49 : b35 ≠ b49 := Nat.ne_of_lt (Nat.lt_of_lt_of_le V_b35.lt (Nat.le_of_eq gq49.symm))
      have ne_b36_b49 : b36 ≠ b49 := Nat.ne_of_lt (Nat.lt_of_lt_of_le V_b36.lt (Nat.le_of_eq gq49.symm))
      have ne_b46_b49 : b46 ≠ b49 := Nat.ne_of_lt (Nat.lt_of_lt_of_le E_b46.lt (Nat.le_of_eq gq49.symm))
      have g_b49 : n0 ≤ b49 := Nat.le_trans Zs (Nat.le_of_eq gq49.symm)
      have V_b34 := V_b34.ext E49
      have V_b35 := V_b35.ext E49
      have V_b36 := V_b36.ext E49
      have E_b46 := E_b46.ext E49
      have F_states_b46 := F_states_b46.ext E49
      have Zs := Nat.le_trans Zs E49.1
      have E_b49 := A49
      have F_states_b49 : Fld Z h49 b49 "com/example/processes_as_trees/processesastrees/StateTuple" "states" "[I" .null := D49 (Or.inr (hw _ (List.mem_of_getElem? (i := 20) rfl))) (ty := (.array .int)) (by decide)
      refine own_by (B := T49.setTop (mkF m 153 #[.val (.int i0), .val (.int i1), .val (.int i2), .val (.int i3), .val (.int i4), .val (.int (2 : Int32)), .val (.ref b34), .val (.ref b35), .val (.ref b36), .val (.int i2), .val (.int (0 : Int32)), .val (.int (own_fin (own_mix (own_mix (2 : Int32) i1) i2))), .unset, .unset] [(.ref b49)])) st49 ?_
      refine own_by (B := T49.setTop (mkF m 154 #[.val (.int i0), .val (.int i1), .val (.int i2), .val (.int i3), .val (.int i4), .val (.int (2 : Int32)), .val (.ref b34), .val (.ref b35), .val (.ref b36), .val (.int i2), .val (.int (0 : Int32)), .val (.int (own_fin (own_mix (own_mix (2 : Int32) i1) i2))), .unset, .unset] [(.ref b49), (.ref b49)])) (fun t k => XS.dup X49.here hx rfl (hb hby at_153) rfl rfl k) ?_
      refine own_by (B := T49.setTop (mkF m 156 #[.val (.int i0), .val (.int i1), .val (.int i2), .val (.int i3), .val (.int i4), .val (.int (2 : Int32)), .val (.ref b34), .val (.ref b35), .val (.ref b36), .val (.int i2), .val (.int (0 : Int32)), .val (.int (own_fin (own_mix (own_mix (2 : Int32) i1) i2))), .unset, .unset] [(.ref b35), (.ref b49), (.ref b49)])) (fun t k => XS.aload X49.here hx rfl (hb hby at_154) rfl rfl k) ?_
      obtain ⟨_, _, ⟨T50, L50, k50, n50⟩, -, X50, ⟨Lc50, hQ50, l50, y50, z50⟩, st50⟩ := X49.specialBack hx (y := (⟨"com/example/processes_as_trees/processesastrees/StateTuple", "<init>", "([I)V"⟩ : MethodName)) rfl hown (mvT hZ (hw _ (List.mem_of_getElem? (i := 8) rfl))) (mvT hZ (hw _ (List.mem_of_getElem? (i := 9) rfl))) (mvT hZ (hw _ (List.mem_of_getElem? (i := 10) rfl))) (by decide) (backOf (W := 1) (rmI l Z a0 hw [] b49 b35 h49 n0 Zs E_b49 F_states_b49 g_b49) hZ (hw _ (List.mem_of_getElem? (i := 10) rfl)) (hw _ (List.mem_of_getElem? (i := 7) rfl)) (by decide) (by decide)) (g := (mkF m 156 #[.val (.int i0), .val (.int i1), .val (.int i2), .val (.int i3), .val (.int i4), .val (.int (2 : Int32)), .val (.ref b34), .val (.ref b35), .val (.ref b36), .val (.int i2), .val (.int (0 : Int32)), .val (.int (own_fin (own_mix (own_mix (2 : Int32) i1) i2))), .unset, .unset] [(.ref b35), (.ref b49), (.ref b49)])) rfl (by rw [hml]; rfl) (Steps.refl _) (a := b49) (argsL := [(.ref b35)]) (rest := [(.ref b49)]) (lenOf own_pd2 rfl) rfl (by show 2 * 0 + _ ≤ _; exact Nat.le_of_eq rfl) (hb hby at_156) (fun _ _ => ⟨rfl, e49, (by decide : 5 + 0 ≤ _), (by decide : 8 + 0 ≤ _)⟩)
      dsimp only [Pt.U, Pt.locs, Pt.cells, Pt.slots] at X50 l50 y50 z50 st50 hQ50
      subst l50 y50 z50
      obtain ⟨rfl, Nq50, Kc50, Fc50⟩ := hQ50
      have Nf := Fr.app Nf Nq50
      have V_b34 := V_b34.keep Kc50 (ninS ne_b34_b49 nin0)
      have V_b35 := V_b35.keep Kc50 (ninS ne_b35_b49 nin0)
      have V_b36 := V_b36.keep Kc50 (ninS ne_b36_b49 nin0)
      have E_b46 := E_b46.keep Kc50
      have F_states_b46 := F_states_b46.keep Kc50 (ninS ne_b46_b49 nin0)
      have E_b49 := E_b49.keep Kc50
      have Zs := Nat.le_trans Zs Kc50.1
      have F_states_b49 := Fc50
      refine own_by (B := T50.setTop (mkF m 159 #[.val (.int i0), .val (.int i1), .val (.int i2), .val (.int i3), .val (.int i4), .val (.int (2 : Int32)), .val (.ref b34), .val (.ref b35), .val (.ref b36), .val (.int i2), .val (.int (0 : Int32)), .val (.int (own_fin (own_mix (own_mix (2 : Int32) i1) i2))), .unset, .unset] [(.ref b49)])) (fun t k => st50.trans k) ?_
      obtain ⟨cq51, kq51, q51a, q51b, q51c⟩ := isOf hZ rfl E_b49
      obtain ⟨_, _, ⟨T51, L51, k51, n51⟩, -, X51, ⟨Lc51, hQ51, l51, y51, z51⟩, st51⟩ := X50.virtualBack hx (y := (⟨"com/example/processes_as_trees/processesastrees/StateTuple", "hashCode", "()I"⟩ : MethodName)) (z := (⟨"com/example/processes_as_trees/processesastrees/StateTuple", "hashCode", "()I"⟩ : MethodName)) hown (mvT hZ (hw _ (List.mem_of_getElem? (i := 21) rfl))) (mvT hZ (hw _ (List.mem_of_getElem? (i := 22) rfl))) (notFace_of_selects (args := #[]) (mvT hZ (hw _ (List.mem_of_getElem? (i := 24) rfl)))) (mvT hZ (hw _ (List.mem_of_getElem? (i := 24) rfl))) (mvT hZ (hw _ (List.mem_of_getElem? (i := 23) rfl))) (by decide) (backOf (W := 0) (rmH2 l Z a0 hw [] b49 b35 f35 i1 i2 T50.heap n0 Zs F_states_b49 V_b35 hf35_0 hf35_1) hZ (hw _ (List.mem_of_getElem? (i := 25) rfl)) (hw _ (List.mem_of_getElem? (i := 7) rfl)) (by decide) (by decide)) q51a q51c (g := (mkF m 159 #[.val (.int i0), .val (.int i1), .val (.int i2), .val (.int i3), .val (.int i4), .val (.int (2 : Int32)), .val (.ref b34), .val (.ref b35), .val (.ref b36), .val (.int i2), .val (.int (0 : Int32)), .val (.int (own_fin (own_mix (own_mix (2 : Int32) i1) i2))), .unset, .unset] [(.ref b49)])) rfl (by rw [hml]; rfl) (Steps.refl _) (argsL := []) (rest := []) (lenOf own_pd3 rfl) rfl (by show 2 * 0 + _ ≤ _; exact Nat.le_of_eq rfl) (hb hby at_159) (fun _ _ => ⟨rfl, rfl, (by decide : 5 + 0 ≤ _), (by decide : 8 + 0 ≤ _)⟩)
      dsimp only [Pt.U, Pt.locs, Pt.cells, Pt.slots] at X51 l51 y51 z51 st51 hQ51
      subst l51 y51 z51
      obtain ⟨rfl, Nq51, hp51⟩ := hQ51
      have Nf := Fr.app Nf Nq51
      have ec51 : T51.heap = T50.heap := hp51
      refine own_by (B := T51.setTop (mkF m 162 #[.val (.int i0), .val (.int i1), .val (.int i2), .val (.int i3), .val (.int i4), .val (.int (2 : Int32)), .val (.ref b34), .val (.ref b35), .val (.ref b36), .val (.int i2), .val (.int (0 : Int32)), .val (.int (own_fin (own_mix (own_mix (2 : Int32) i1) i2))), .unset, .unset] [(.int (own_fin (own_mix (own_mix (2 : Int32) i1) i2)))])) (fun t k => st51.trans k) ?_
      refine own_by (B := T51.setTop (mkF m 164 #[.val (.int i0), .val (.int i1), .val (.int i2), .val (.int i3), .val (.int i4), .val (.int (2 : Int32)), .val (.ref b34), .val (.ref b35), .val (.ref b36), .val (.int i2), .val (.int (0 : Int32)), .val (.int (own_fin (own_mix (own_mix (2 : Int32) i1) i2))), .val (.int (own_fin (own_mix (own_mix (2 : Int32) i1) i2))), .unset] [])) (fun t k => XS.istore X51.here hx rfl (hb hby at_162) rfl (l' := #[.val (.int i0), .val (.int i1), .val (.int i2), .val (.int i3), .val (.int i4), .val (.int (2 : Int32)), .val (.ref b34), .val (.ref b35), .val (.ref b36), .val (.int i2), .val (.int (0 : Int32)), .val (.int (own_fin (own_mix (own_mix (2 : Int32) i1) i2))), .val (.int (own_fin (own_mix (own_mix (2 : Int32) i1) i2))), .unset]) rfl k) ?_
      obtain ⟨T52, h52, X52, e52, E52, A52, D52, -, st52⟩ := newO X51 hx hZ hown (hw _ (List.mem_of_getElem? (i := 5) rfl)) (hw _ (List.mem_of_getElem? (i := 6) rfl)) (hw _ (List.mem_of_getElem? (i := 7) rfl)) ec51 (g := (mkF m 164 #[.val (.int i0), .val (.int i1), .val (.int i2), .val (.int i3), .val (.int i4), .val (.int (2 : Int32)), .val (.ref b34), .val (.ref b35), .val (.ref b36), .val (.int i2), .val (.int (0 : Int32)), .val (.int (own_fin (own_mix (own_mix (2 : Int32) i1) i2))), .val (.int (own_fin (own_mix (own_mix (2 : Int32) i1) i2))), .unset] [])) rfl (hb hby at_164) (by decide) (by decide)
      obtain ⟨b52, gq52⟩ : ∃ z, z = T50.heap.size := ⟨_, rfl⟩
      rw [← gq52] at A52 D52 st52
      have ne_b34_b52 : b34 ≠ b52 := Nat.ne_of_lt (Nat.lt_of_lt_of_le V_b34.lt (Nat.le_of_eq gq52.symm))
      have ne_b35_b52 : b35 ≠ b52 := Nat.ne_of_lt (Nat.lt_of_lt_of_le V_b35.lt (Nat.le_of_eq gq52.symm))
      have ne_b36_b52 : b36 ≠ b52 := Nat.ne_of_lt (Nat.lt_of_lt_of_le V_b36.lt (Nat.le_of_eq gq52.symm))
      have ne_b46_b52 : b46 ≠ b52 := Nat.ne_of_lt (Nat.lt_of_lt_of_le E_b46.lt (Nat.le_of_eq gq52.symm))
      have ne_b49_b52 : b49 ≠ b52 := Nat.ne_of_lt (Nat.lt_of_lt_of_le E_b49.lt (Nat.le_of_eq gq52.symm))
      have g_b52 : n0 ≤ b52 := Nat.le_trans Zs (Nat.le_of_eq gq52.symm)
      have V_b34 := V_b34.ext E52
      have V_b35 := V_b35.ext E52
      have V_b36 := V_b36.ext E52
      have E_b46 := E_b46.ext E52
      have F_states_b46 := F_states_b46.ext E52
      have E_b49 := E_b49.ext E52
      have F_states_b49 := F_states_b49.ext E52
      have Zs := Nat.le_trans Zs E52.1
      have E_b52 := A52
      have F_states_b52 : Fld Z h52 b52 "com/example/processes_as_trees/processesastrees/StateTuple" "states" "[I" .null := D52 (Or.inr (hw _ (List.mem_of_getElem? (i := 20) rfl))) (ty := (.array .int)) (by decide)
      refine own_by (B := T52.setTop (mkF m 167 #[.val (.int i0), .val (.int i1), .val (.int i2), .val (.int i3), .val (.int i4), .val (.int (2 : Int32)), .val (.ref b34), .val (.ref b35), .val (.ref b36), .val (.int i2), .val (.int (0 : Int32)), .val (.int (own_fin (own_mix (own_mix (2 : Int32) i1) i2))), .val (.int (own_fin (own_mix (own_mix (2 : Int32) i1) i2))), .unset] [(.ref b52)])) st52 ?_
      refine own_by (B := T52.setTop (mkF m 168 #[.val (.int i0), .val (.int i1), .val (.int i2), .val (.int i3), .val (.int i4), .val (.int (2 : Int32)), .val (.ref b34), .val (.ref b35), .val (.ref b36), .val (.int i2), .val (.int (0 : Int32)), .val (.int (own_fin (own_mix (own_mix (2 : Int32) i1) i2))), .val (.int (own_fin (own_mix (own_mix (2 : Int32) i1) i2))), .unset] [(.ref b52), (.ref b52)])) (fun t k => XS.dup X52.here hx rfl (hb hby at_167) rfl rfl k) ?_
      refine own_by (B := T52.setTop (mkF m 170 #[.val (.int i0), .val (.int i1), .val (.int i2), .val (.int i3), .val (.int i4), .val (.int (2 : Int32)), .val (.ref b34), .val (.ref b35), .val (.ref b36), .val (.int i2), .val (.int (0 : Int32)), .val (.int (own_fin (own_mix (own_mix (2 : Int32) i1) i2))), .val (.int (own_fin (own_mix (own_mix (2 : Int32) i1) i2))), .unset] [(.ref b36), (.ref b52), (.ref b52)])) (fun t k => XS.aload X52.here hx rfl (hb hby at_168) rfl rfl k) ?_
      obtain ⟨_, _, ⟨T53, L53, k53, n53⟩, -, X53, ⟨Lc53, hQ53, l53, y53, z53⟩, st53⟩ := X52.specialBack hx (y := (⟨"com/example/processes_as_trees/processesastrees/StateTuple", "<init>", "([I)V"⟩ : MethodName)) rfl hown (mvT hZ (hw _ (List.mem_of_getElem? (i := 8) rfl))) (mvT hZ (hw _ (List.mem_of_getElem? (i := 9) rfl))) (mvT hZ (hw _ (List.mem_of_getElem? (i := 10) rfl))) (by decide) (backOf (W := 1) (rmI l Z a0 hw [] b52 b36 h52 n0 Zs E_b52 F_states_b52 g_b52) hZ (hw _ (List.mem_of_getElem? (i := 10) rfl)) (hw _ (List.mem_of_getElem? (i := 7) rfl)) (by decide) (by decide)) (g := (mkF m 170 #[.val (.int i0), .val (.int i1), .val (.int i2), .val (.int i3), .val (.int i4), .val (.int (2 : Int32)), .val (.ref b34), .val (.ref b35), .val (.ref b36), .val (.int i2), .val (.int (0 : Int32)), .val (.int (own_fin (own_mix (own_mix (2 : Int32) i1) i2))), .val (.int (own_fin (own_mix (own_mix (2 : Int32) i1) i2))), .unset] [(.ref b36), (.ref b52), (.ref b52)])) rfl (by rw [hml]; rfl) (Steps.refl _) (a := b52) (argsL := [(.ref b36)]) (rest := [(.ref b52)]) (lenOf own_pd2 rfl) rfl (by show 2 * 0 + _ ≤ _; exact Nat.le_of_eq rfl) (hb hby at_170) (fun _ _ => ⟨rfl, e52, (by decide : 6 + 0 ≤ _), (by decide : 9 + 0 ≤ _)⟩)
      dsimp only [Pt.U, Pt.locs, Pt.cells, Pt.slots] at X53 l53 y53 z53 st53 hQ53
      subst l53 y53 z53
      obtain ⟨rfl, Nq53, Kc53, Fc53⟩ := hQ53
      have Nf := Fr.app Nf Nq53
      have V_b34 := V_b34.keep Kc53 (ninS ne_b34_b52 nin0)
      have V_b35 := V_b35.keep Kc53 (ninS ne_b35_b52 nin0)
      have V_b36 := V_b36.keep Kc53 (ninS ne_b36_b52 nin0)
      have E_b46 := E_b46.keep Kc53
      have F_states_b46 := F_states_b46.keep Kc53 (ninS ne_b46_b52 nin0)
      have E_b49 := E_b49.keep Kc53
      have F_states_b49 := F_states_b49.keep Kc53 (ninS ne_b49_b52 nin0)
      have E_b52 := E_b52.keep Kc53
      have Zs := Nat.le_trans Zs Kc53.1
      have F_states_b52 := Fc53
      refine own_by (B := T53.setTop (mkF m 173 #[.val (.int i0), .val (.int i1), .val (.int i2), .val (.int i3), .val (.int i4), .val (.int (2 : Int32)), .val (.ref b34), .val (.ref b35), .val (.ref b36), .val (.int i2), .val (.int (0 : Int32)), .val (.int (own_fin (own_mix (own_mix (2 : Int32) i1) i2))), .val (.int (own_fin (own_mix (own_mix (2 : Int32) i1) i2))), .unset] [(.ref b52)])) (fun t k => st53.trans k) ?_
      obtain ⟨cq54, kq54, q54a, q54b, q54c⟩ := isOf hZ rfl E_b52
      obtain ⟨_, _, ⟨T54, L54, k54, n54⟩, -, X54, ⟨Lc54, hQ54, l54, y54, z54⟩, st54⟩ := X53.virtualBack hx (y := (⟨"com/example/processes_as_trees/processesastrees/StateTuple", "hashCode", "()I"⟩ : MethodName)) (z := (⟨"com/example/processes_as_trees/processesastrees/StateTuple", "hashCode", "()I"⟩ : MethodName)) hown (mvT hZ (hw _ (List.mem_of_getElem? (i := 21) rfl))) (mvT hZ (hw _ (List.mem_of_getElem? (i := 22) rfl))) (notFace_of_selects (args := #[]) (mvT hZ (hw _ (List.mem_of_getElem? (i := 24) rfl)))) (mvT hZ (hw _ (List.mem_of_getElem? (i := 24) rfl))) (mvT hZ (hw _ (List.mem_of_getElem? (i := 23) rfl))) (by decide) (backOf (W := 0) (rmH2 l Z a0 hw [] b52 b36 f36 i1 i4 T53.heap n0 Zs F_states_b52 V_b36 hf36_0 hf36_1) hZ (hw _ (List.mem_of_getElem? (i := 25) rfl)) (hw _ (List.mem_of_getElem? (i := 7) rfl)) (by decide) (by decide)) q54a q54c (g := (mkF m 173 #[.val (.int i0), .val (.int i1), .val (.int i2), .val (.int i3), .val (.int i4), .val (.int (2 : Int32)), .val (.ref b34), .val (.ref b35), .val (.ref b36), .val (.int i2), .val (.int (0 : Int32)), .val (.int (own_fin (own_mix (own_mix (2 : Int32) i1) i2))), .val (.int (own_fin (own_mix (own_mix (2 : Int32) i1) i2))), .unset] [(.ref b52)])) rfl (by rw [hml]; rfl) (Steps.refl _) (argsL := []) (rest := []) (lenOf own_pd3 rfl) rfl (by show 2 * 0 + _ ≤ _; exact Nat.le_of_eq rfl) (hb hby at_173) (fun _ _ => ⟨rfl, rfl, (by decide : 6 + 0 ≤ _), (by decide : 9 + 0 ≤ _)⟩)
      dsimp only [Pt.U, Pt.locs, Pt.cells, Pt.slots] at X54 l54 y54 z54 st54 hQ54
      subst l54 y54 z54
      obtain ⟨rfl, Nq54, hp54⟩ := hQ54
      have Nf := Fr.app Nf Nq54
      have ec54 : T54.heap = T53.heap := hp54
      refine own_by (B := T54.setTop (mkF m 176 #[.val (.int i0), .val (.int i1), .val (.int i2), .val (.int i3), .val (.int i4), .val (.int (2 : Int32)), .val (.ref b34), .val (.ref b35), .val (.ref b36), .val (.int i2), .val (.int (0 : Int32)), .val (.int (own_fin (own_mix (own_mix (2 : Int32) i1) i2))), .val (.int (own_fin (own_mix (own_mix (2 : Int32) i1) i2))), .unset] [(.int (own_fin (own_mix (own_mix (2 : Int32) i1) i4)))])) (fun t k => st54.trans k) ?_
      refine own_by (B := T54.setTop (mkF m 178 #[.val (.int i0), .val (.int i1), .val (.int i2), .val (.int i3), .val (.int i4), .val (.int (2 : Int32)), .val (.ref b34), .val (.ref b35), .val (.ref b36), .val (.int i2), .val (.int (0 : Int32)), .val (.int (own_fin (own_mix (own_mix (2 : Int32) i1) i2))), .val (.int (own_fin (own_mix (own_mix (2 : Int32) i1) i2))), .val (.int (own_fin (own_mix (own_mix (2 : Int32) i1) i4)))] [])) (fun t k => XS.istore X54.here hx rfl (hb hby at_176) rfl (l' := #[.val (.int i0), .val (.int i1), .val (.int i2), .val (.int i3), .val (.int i4), .val (.int (2 : Int32)), .val (.ref b34), .val (.ref b35), .val (.ref b36), .val (.int i2), .val (.int (0 : Int32)), .val (.int (own_fin (own_mix (own_mix (2 : Int32) i1) i2))), .val (.int (own_fin (own_mix (own_mix (2 : Int32) i1) i2))), .val (.int (own_fin (own_mix (own_mix (2 : Int32) i1) i4)))]) rfl k) ?_
      refine own_by (B := T54.setTop (mkF m 180 #[.val (.int i0), .val (.int i1), .val (.int i2), .val (.int i3), .val (.int i4), .val (.int (2 : Int32)), .val (.ref b34), .val (.ref b35), .val (.ref b36), .val (.int i2), .val (.int (0 : Int32)), .val (.int (own_fin (own_mix (own_mix (2 : Int32) i1) i2))), .val (.int (own_fin (own_mix (own_mix (2 : Int32) i1) i2))), .val (.int (own_fin (own_mix (own_mix (2 : Int32) i1) i4)))] [(.int (own_fin (own_mix (own_mix (2 : Int32) i1) i2)))])) (fun t k => XS.iload X54.here hx rfl (hb hby at_178) rfl k) ?_
      refine own_by (B := T54.setTop (mkF m 182 #[.val (.int i0), .val (.int i1), .val (.int i2), .val (.int i3), .val (.int i4), .val (.int (2 : Int32)), .val (.ref b34), .val (.ref b35), .val (.ref b36), .val (.int i2), .val (.int (0 : Int32)), .val (.int (own_fin (own_mix (own_mix (2 : Int32) i1) i2))), .val (.int (own_fin (own_mix (own_mix (2 : Int32) i1) i2))), .val (.int (own_fin (own_mix (own_mix (2 : Int32) i1) i4)))] [(.int (own_fin (own_mix (own_mix (2 : Int32) i1) i2))), (.int (own_fin (own_mix (own_mix (2 : Int32) i1) i2)))])) (fun t k => XS.iload X54.here hx rfl (hb hby at_180) rfl k) ?_
      refine own_by (B := T54.setTop (mkF m 185 #[.val (.int i0), .val (.int i1), .val (.int i2), .val (.int i3), .val (.int i4), .val (.int (2 : Int32)), .val (.ref b34), .val (.ref b35), .val (.ref b36), .val (.int i2), .val (.int (0 : Int32)), .val (.int (own_fin (own_mix (own_mix (2 : Int32) i1) i2))), .val (.int (own_fin (own_mix (own_mix (2 : Int32) i1) i2))), .val (.int (own_fin (own_mix (own_mix (2 : Int32) i1) i4)))] [])) (fun t k => XS.icmpNo X54.here hx rfl (hb hby at_182) rfl (teq rfl).2 k) ?_
      refine own_by (B := T54.setTop (mkF m 187 #[.val (.int i0), .val (.int i1), .val (.int i2), .val (.int i3), .val (.int i4), .val (.int (2 : Int32)), .val (.ref b34), .val (.ref b35), .val (.ref b36), .val (.int i2), .val (.int (0 : Int32)), .val (.int (own_fin (own_mix (own_mix (2 : Int32) i1) i2))), .val (.int (own_fin (own_mix (own_mix (2 : Int32) i1) i2))), .val (.int (own_fin (own_mix (own_mix (2 : Int32) i1) i4)))] [(.int (own_fin (own_mix (own_mix (2 : Int32) i1) i2)))])) (fun t k => XS.iload X54.here hx rfl (hb hby at_185) rfl k) ?_
      refine own_by (B := T54.setTop (mkF m 189 #[.val (.int i0), .val (.int i1), .val (.int i2), .val (.int i3), .val (.int i4), .val (.int (2 : Int32)), .val (.ref b34), .val (.ref b35), .val (.ref b36), .val (.int i2), .val (.int (0 : Int32)), .val (.int (own_fin (own_mix (own_mix (2 : Int32) i1) i2))), .val (.int (own_fin (own_mix (own_mix (2 : Int32) i1) i2))), .val (.int (own_fin (own_mix (own_mix (2 : Int32) i1) i4)))] [(.int (own_fin (own_mix (own_mix (2 : Int32) i1) i4))), (.int (own_fin (own_mix (own_mix (2 : Int32) i1) i2)))])) (fun t k => XS.iload X54.here hx rfl (hb hby at_187) rfl k) ?_
      refine own_by (B := T54.setTop (mkF m 196 #[.val (.int i0), .val (.int i1), .val (.int i2), .val (.int i3), .val (.int i4), .val (.int (2 : Int32)), .val (.ref b34), .val (.ref b35), .val (.ref b36), .val (.int i2), .val (.int (0 : Int32)), .val (.int (own_fin (own_mix (own_mix (2 : Int32) i1) i2))), .val (.int (own_fin (own_mix (own_mix (2 : Int32) i1) i2))), .val (.int (own_fin (own_mix (own_mix (2 : Int32) i1) i4)))] [])) (fun t k => XS.icmpYes X54.here hx rfl (pc0 := 189) (pc' := 196) rfl (hb hby at_189) rfl (feq (fun q => hc126 (own_mix_inj (own_fin_inj q)))).2 (by decide) (by decide) k) ?_
      refine own_by (B := T54.setTop (mkF m 197 #[.val (.int i0), .val (.int i1), .val (.int i2), .val (.int i3), .val (.int i4), .val (.int (2 : Int32)), .val (.ref b34), .val (.ref b35), .val (.ref b36), .val (.int i2), .val (.int (0 : Int32)), .val (.int (own_fin (own_mix (own_mix (2 : Int32) i1) i2))), .val (.int (own_fin (own_mix (own_mix (2 : Int32) i1) i2))), .val (.int (own_fin (own_mix (own_mix (2 : Int32) i1) i4)))] [(.int (0 : Int32))])) (fun t k => XS.iconst X54.here hx rfl (hb hby at_196) k) ?_
      refine own_by (B := T54.setTop (mkF m 199 #[.val (.int i0), .val (.int i1), .val (.int i2), .val (.int i3), .val (.int i4), .val (.int (2 : Int32)), .val (.ref b34), .val (.ref b35), .val (.ref b36), .val (.int i2), .val (.int (0 : Int32)), .val (.int (own_fin (own_mix (own_mix (2 : Int32) i1) i2))), .val (.int (own_fin (own_mix (own_mix (2 : Int32) i1) i2))), .val (.int (own_fin (own_mix (own_mix (2 : Int32) i1) i4)))] [(.int (0 : Int32)), (.int (0 : Int32))])) (fun t k => XS.iload X54.here hx rfl (hb hby at_197) rfl k) ?_
      refine own_by (B := T54.setTop (mkF m 202 #[.val (.int i0), .val (.int i1), .val (.int i2), .val (.int i3), .val (.int i4), .val (.int (2 : Int32)), .val (.ref b34), .val (.ref b35), .val (.ref b36), .val (.int i2), .val (.int (0 : Int32)), .val (.int (own_fin (own_mix (own_mix (2 : Int32) i1) i2))), .val (.int (own_fin (own_mix (own_mix (2 : Int32) i1) i2))), .val (.int (own_fin (own_mix (own_mix (2 : Int32) i1) i4)))] [])) (fun t k => XS.icmpNo X54.here hx rfl (hb hby at_199) rfl (teq (by decide)).2 k) ?_
      refine own_by (B := T54.setTop (mkF m 203 #[.val (.int i0), .val (.int i1), .val (.int i2), .val (.int i3), .val (.int i4), .val (.int (2 : Int32)), .val (.ref b34), .val (.ref b35), .val (.ref b36), .val (.int i2), .val (.int (0 : Int32)), .val (.int (own_fin (own_mix (own_mix (2 : Int32) i1) i2))), .val (.int (own_fin (own_mix (own_mix (2 : Int32) i1) i2))), .val (.int (own_fin (own_mix (own_mix (2 : Int32) i1) i4)))] [(.int (1 : Int32))])) (fun t k => XS.iconst X54.here hx rfl (hb hby at_202) k) ?_
      refine own_by (B := T54.setTop (mkF m 207 #[.val (.int i0), .val (.int i1), .val (.int i2), .val (.int i3), .val (.int i4), .val (.int (2 : Int32)), .val (.ref b34), .val (.ref b35), .val (.ref b36), .val (.int i2), .val (.int (0 : Int32)), .val (.int (own_fin (own_mix (own_mix (2 : Int32) i1) i2))), .val (.int (own_fin (own_mix (own_mix (2 : Int32) i1) i2))), .val (.int (own_fin (own_mix (own_mix (2 : Int32) i1) i4)))] [(.int (1 : Int32))])) (fun t k => XS.goto X54.here hx rfl (pc0 := 203) (pc' := 207) rfl (hb hby at_203) (by decide) (by decide) k) ?_
      exact own_end X54 (v := some (.int (1 : Int32))) (fun h => by rw [Bd.returns] at h; cases h) (BodyLoose.notSynchronized Bd) (Q := (Q_rm0 Z i0 i1 i2 i3 i4 h0 n0)) (fun fs hr => retN X54 hx (t := .boolean) Bd.returns (by simp) (hb hby at_207) hr) (show (Q_rm0 Z i0 i1 i2 i3 i4 h0 n0) _ T54.heap _ from (by rw [ec54]; exact ⟨rfl, Nf⟩)) (by decide) (by decide)
  · rw [hq]
    refine own_by (B := s₁.setTop (mkF m 7 #[.val (.int i0), .val (.int i1), .val (.int i2), .val (.int i3), .val (.int i4), .val (.int (3 : Int32)), .unset, .unset, .unset, .unset, .unset, .unset, .unset, .unset] [(.int (3 : Int32))])) (fun t k => XS.iload X0.here hx rfl (hb hby at_5) rfl k) ?_
    refine own_by (B := s₁.setTop (mkF m 8 #[.val (.int i0), .val (.int i1), .val (.int i2), .val (.int i3), .val (.int i4), .val (.int (3 : Int32)), .unset, .unset, .unset, .unset, .unset, .unset, .unset, .unset] [(.int i1), (.int (3 : Int32))])) (fun t k => XS.iloadN X0.here hx rfl (hb hby at_7) rfl k) ?_
    refine own_by (B := s₁.setTop (mkF m 9 #[.val (.int i0), .val (.int i1), .val (.int i2), .val (.int i3), .val (.int i4), .val (.int (3 : Int32)), .unset, .unset, .unset, .unset, .unset, .unset, .unset, .unset] [(.int i2), (.int i1), (.int (3 : Int32))])) (fun t k => XS.iloadN X0.here hx rfl (hb hby at_8) rfl k) ?_
    refine own_by (B := s₁.setTop (mkF m 10 #[.val (.int i0), .val (.int i1), .val (.int i2), .val (.int i3), .val (.int i4), .val (.int (3 : Int32)), .unset, .unset, .unset, .unset, .unset, .unset, .unset, .unset] [(.int i3), (.int i2), (.int i1), (.int (3 : Int32))])) (fun t k => XS.iloadN X0.here hx rfl (hb hby at_9) rfl k) ?_
    obtain ⟨_, _, ⟨T55, L55, k55, n55⟩, -, X55, ⟨Lc55, hQ55, l55, y55, z55⟩, st55⟩ := Jvm.LawKit.callS X0 hx (y := (⟨"com/example/processes_as_trees/processesastrees/StateTupleHashCodePinLaw", "make", "(IIII)[I"⟩ : MethodName)) hown (mvT hZ (hw _ (List.mem_of_getElem? (i := 0) rfl))) (mvT hZ (hw _ (List.mem_of_getElem? (i := 1) rfl))) (mvT hZ (hw _ (List.mem_of_getElem? (i := 2) rfl))) (mvT hZ (hw _ (List.mem_of_getElem? (i := 3) rfl))) (by decide) (backOf (W := 0) (rmM3 l Z a0 hw [] i1 i2 i3 h0 n0 Zs) hZ (hw _ (List.mem_of_getElem? (i := 3) rfl)) (hw _ (List.mem_of_getElem? (i := 2) rfl)) (by decide) (by decide)) (g := (mkF m 10 #[.val (.int i0), .val (.int i1), .val (.int i2), .val (.int i3), .val (.int i4), .val (.int (3 : Int32)), .unset, .unset, .unset, .unset, .unset, .unset, .unset, .unset] [(.int i3), (.int i2), (.int i1), (.int (3 : Int32))])) rfl (by rw [hml]; rfl) (argsL := [(.int (3 : Int32)), (.int i1), (.int i2), (.int i3)]) (rest := []) (lenOf own_pd1 rfl) rfl (by show 2 * 0 + _ ≤ _; exact Nat.le_of_eq rfl) (hb hby at_10) (fun _ _ => ⟨rfl, e0, (by decide : 0 + 1 ≤ _), (by decide : 0 + 3 ≤ _)⟩)
    dsimp only [Pt.U, Pt.locs, Pt.cells, Pt.slots] at X55 l55 y55 z55 st55 hQ55
    subst l55 y55 z55
    obtain ⟨rfl, Nq55, Kc55, f55, Vc55, hf55_0, hf55_1, hf55_2⟩ := hQ55
    have Nf := Fr.app Nf Nq55
    obtain ⟨b55, gq55⟩ : ∃ z, z = h0.size := ⟨_, rfl⟩
    rw [← gq55] at Vc55 st55
    have g_b55 : n0 ≤ b55 := Nat.le_trans Zs (Nat.le_of_eq gq55.symm)
    have Zs := Nat.le_trans Zs Kc55.1
    have V_b55 := Vc55
    refine own_by (B := T55.setTop (mkF m 13 #[.val (.int i0), .val (.int i1), .val (.int i2), .val (.int i3), .val (.int i4), .val (.int (3 : Int32)), .unset, .unset, .unset, .unset, .unset, .unset, .unset, .unset] [(.ref b55)])) st55 ?_
    refine own_by (B := T55.setTop (mkF m 15 #[.val (.int i0), .val (.int i1), .val (.int i2), .val (.int i3), .val (.int i4), .val (.int (3 : Int32)), .val (.ref b55), .unset, .unset, .unset, .unset, .unset, .unset, .unset] [])) (fun t k => XS.astore X55.here hx rfl (hb hby at_13) rfl rfl (l' := #[.val (.int i0), .val (.int i1), .val (.int i2), .val (.int i3), .val (.int i4), .val (.int (3 : Int32)), .val (.ref b55), .unset, .unset, .unset, .unset, .unset, .unset, .unset]) rfl k) ?_
    refine own_by (B := T55.setTop (mkF m 17 #[.val (.int i0), .val (.int i1), .val (.int i2), .val (.int i3), .val (.int i4), .val (.int (3 : Int32)), .val (.ref b55), .unset, .unset, .unset, .unset, .unset, .unset, .unset] [(.int (3 : Int32))])) (fun t k => XS.iload X55.here hx rfl (hb hby at_15) rfl k) ?_
    refine own_by (B := T55.setTop (mkF m 18 #[.val (.int i0), .val (.int i1), .val (.int i2), .val (.int i3), .val (.int i4), .val (.int (3 : Int32)), .val (.ref b55), .unset, .unset, .unset, .unset, .unset, .unset, .unset] [(.int i1), (.int (3 : Int32))])) (fun t k => XS.iloadN X55.here hx rfl (hb hby at_17) rfl k) ?_
    refine own_by (B := T55.setTop (mkF m 19 #[.val (.int i0), .val (.int i1), .val (.int i2), .val (.int i3), .val (.int i4), .val (.int (3 : Int32)), .val (.ref b55), .unset, .unset, .unset, .unset, .unset, .unset, .unset] [(.int i2), (.int i1), (.int (3 : Int32))])) (fun t k => XS.iloadN X55.here hx rfl (hb hby at_18) rfl k) ?_
    refine own_by (B := T55.setTop (mkF m 20 #[.val (.int i0), .val (.int i1), .val (.int i2), .val (.int i3), .val (.int i4), .val (.int (3 : Int32)), .val (.ref b55), .unset, .unset, .unset, .unset, .unset, .unset, .unset] [(.int i3), (.int i2), (.int i1), (.int (3 : Int32))])) (fun t k => XS.iloadN X55.here hx rfl (hb hby at_19) rfl k) ?_
    obtain ⟨_, _, ⟨T56, L56, k56, n56⟩, -, X56, ⟨Lc56, hQ56, l56, y56, z56⟩, st56⟩ := Jvm.LawKit.callS X55 hx (y := (⟨"com/example/processes_as_trees/processesastrees/StateTupleHashCodePinLaw", "make", "(IIII)[I"⟩ : MethodName)) hown (mvT hZ (hw _ (List.mem_of_getElem? (i := 0) rfl))) (mvT hZ (hw _ (List.mem_of_getElem? (i := 1) rfl))) (mvT hZ (hw _ (List.mem_of_getElem? (i := 2) rfl))) (mvT hZ (hw _ (List.mem_of_getElem? (i := 3) rfl))) (by decide) (backOf (W := 0) (rmM3 l Z a0 hw [] i1 i2 i3 T55.heap n0 Zs) hZ (hw _ (List.mem_of_getElem? (i := 3) rfl)) (hw _ (List.mem_of_getElem? (i := 2) rfl)) (by decide) (by decide)) (g := (mkF m 20 #[.val (.int i0), .val (.int i1), .val (.int i2), .val (.int i3), .val (.int i4), .val (.int (3 : Int32)), .val (.ref b55), .unset, .unset, .unset, .unset, .unset, .unset, .unset] [(.int i3), (.int i2), (.int i1), (.int (3 : Int32))])) rfl (by rw [hml]; rfl) (argsL := [(.int (3 : Int32)), (.int i1), (.int i2), (.int i3)]) (rest := []) (lenOf own_pd1 rfl) rfl (by show 2 * 0 + _ ≤ _; exact Nat.le_of_eq rfl) (hb hby at_20) (fun _ _ => ⟨rfl, rfl, (by decide : 1 + 1 ≤ _), (by decide : 3 + 3 ≤ _)⟩)
    dsimp only [Pt.U, Pt.locs, Pt.cells, Pt.slots] at X56 l56 y56 z56 st56 hQ56
    subst l56 y56 z56
    obtain ⟨rfl, Nq56, Kc56, f56, Vc56, hf56_0, hf56_1, hf56_2⟩ := hQ56
    have Nf := Fr.app Nf Nq56
    obtain ⟨b56, gq56⟩ : ∃ z, z = T55.heap.size := ⟨_, rfl⟩
    rw [← gq56] at Vc56 st56
    have ne_b55_b56 : b55 ≠ b56 := Nat.ne_of_lt (Nat.lt_of_lt_of_le V_b55.lt (Nat.le_of_eq gq56.symm))
    have g_b56 : n0 ≤ b56 := Nat.le_trans Zs (Nat.le_of_eq gq56.symm)
    have V_b55 := V_b55.keep Kc56 nin0
    have Zs := Nat.le_trans Zs Kc56.1
    have V_b56 := Vc56
    refine own_by (B := T56.setTop (mkF m 23 #[.val (.int i0), .val (.int i1), .val (.int i2), .val (.int i3), .val (.int i4), .val (.int (3 : Int32)), .val (.ref b55), .unset, .unset, .unset, .unset, .unset, .unset, .unset] [(.ref b56)])) st56 ?_
    refine own_by (B := T56.setTop (mkF m 25 #[.val (.int i0), .val (.int i1), .val (.int i2), .val (.int i3), .val (.int i4), .val (.int (3 : Int32)), .val (.ref b55), .val (.ref b56), .unset, .unset, .unset, .unset, .unset, .unset] [])) (fun t k => XS.astore X56.here hx rfl (hb hby at_23) rfl rfl (l' := #[.val (.int i0), .val (.int i1), .val (.int i2), .val (.int i3), .val (.int i4), .val (.int (3 : Int32)), .val (.ref b55), .val (.ref b56), .unset, .unset, .unset, .unset, .unset, .unset]) rfl k) ?_
    refine own_by (B := T56.setTop (mkF m 27 #[.val (.int i0), .val (.int i1), .val (.int i2), .val (.int i3), .val (.int i4), .val (.int (3 : Int32)), .val (.ref b55), .val (.ref b56), .unset, .unset, .unset, .unset, .unset, .unset] [(.int (3 : Int32))])) (fun t k => XS.iload X56.here hx rfl (hb hby at_25) rfl k) ?_
    refine own_by (B := T56.setTop (mkF m 42 #[.val (.int i0), .val (.int i1), .val (.int i2), .val (.int i3), .val (.int i4), .val (.int (3 : Int32)), .val (.ref b55), .val (.ref b56), .unset, .unset, .unset, .unset, .unset, .unset] [])) (fun t k => XS.ifYes X56.here hx rfl (pc0 := 27) (pc' := 42) rfl (hb hby at_27) rfl ((if0 _ _).trans (feq (by decide)).2) (by decide) (by decide) k) ?_
    refine own_by (B := T56.setTop (mkF m 44 #[.val (.int i0), .val (.int i1), .val (.int i2), .val (.int i3), .val (.int i4), .val (.int (3 : Int32)), .val (.ref b55), .val (.ref b56), .unset, .unset, .unset, .unset, .unset, .unset] [(.int (3 : Int32))])) (fun t k => XS.iload X56.here hx rfl (hb hby at_42) rfl k) ?_
    refine own_by (B := T56.setTop (mkF m 45 #[.val (.int i0), .val (.int i1), .val (.int i2), .val (.int i3), .val (.int i4), .val (.int (3 : Int32)), .val (.ref b55), .val (.ref b56), .unset, .unset, .unset, .unset, .unset, .unset] [(.int (1 : Int32)), (.int (3 : Int32))])) (fun t k => XS.iconst X56.here hx rfl (hb hby at_44) k) ?_
    refine own_by (B := T56.setTop (mkF m 61 #[.val (.int i0), .val (.int i1), .val (.int i2), .val (.int i3), .val (.int i4), .val (.int (3 : Int32)), .val (.ref b55), .val (.ref b56), .unset, .unset, .unset, .unset, .unset, .unset] [])) (fun t k => XS.icmpYes X56.here hx rfl (pc0 := 45) (pc' := 61) rfl (hb hby at_45) rfl (feq (by decide)).2 (by decide) (by decide) k) ?_
    refine own_by (B := T56.setTop (mkF m 63 #[.val (.int i0), .val (.int i1), .val (.int i2), .val (.int i3), .val (.int i4), .val (.int (3 : Int32)), .val (.ref b55), .val (.ref b56), .unset, .unset, .unset, .unset, .unset, .unset] [(.int (3 : Int32))])) (fun t k => XS.iload X56.here hx rfl (hb hby at_61) rfl k) ?_
    refine own_by (B := T56.setTop (mkF m 64 #[.val (.int i0), .val (.int i1), .val (.int i2), .val (.int i3), .val (.int i4), .val (.int (3 : Int32)), .val (.ref b55), .val (.ref b56), .unset, .unset, .unset, .unset, .unset, .unset] [(.int (2 : Int32)), (.int (3 : Int32))])) (fun t k => XS.iconst X56.here hx rfl (hb hby at_63) k) ?_
    refine own_by (B := T56.setTop (mkF m 80 #[.val (.int i0), .val (.int i1), .val (.int i2), .val (.int i3), .val (.int i4), .val (.int (3 : Int32)), .val (.ref b55), .val (.ref b56), .unset, .unset, .unset, .unset, .unset, .unset] [])) (fun t k => XS.icmpYes X56.here hx rfl (pc0 := 64) (pc' := 80) rfl (hb hby at_64) rfl (feq (by decide)).2 (by decide) (by decide) k) ?_
    refine own_by (B := T56.setTop (mkF m 81 #[.val (.int i0), .val (.int i1), .val (.int i2), .val (.int i3), .val (.int i4), .val (.int (3 : Int32)), .val (.ref b55), .val (.ref b56), .unset, .unset, .unset, .unset, .unset, .unset] [(.int (3 : Int32))])) (fun t k => XS.iconst X56.here hx rfl (hb hby at_80) k) ?_
    refine own_by (B := T56.setTop (mkF m 82 #[.val (.int i0), .val (.int i1), .val (.int i2), .val (.int i3), .val (.int i4), .val (.int (3 : Int32)), .val (.ref b55), .val (.ref b56), .unset, .unset, .unset, .unset, .unset, .unset] [(.int i1), (.int (3 : Int32))])) (fun t k => XS.iloadN X56.here hx rfl (hb hby at_81) rfl k) ?_
    refine own_by (B := T56.setTop (mkF m 83 #[.val (.int i0), .val (.int i1), .val (.int i2), .val (.int i3), .val (.int i4), .val (.int (3 : Int32)), .val (.ref b55), .val (.ref b56), .unset, .unset, .unset, .unset, .unset, .unset] [(.int i2), (.int i1), (.int (3 : Int32))])) (fun t k => XS.iloadN X56.here hx rfl (hb hby at_82) rfl k) ?_
    refine own_by (B := T56.setTop (mkF m 85 #[.val (.int i0), .val (.int i1), .val (.int i2), .val (.int i3), .val (.int i4), .val (.int (3 : Int32)), .val (.ref b55), .val (.ref b56), .unset, .unset, .unset, .unset, .unset, .unset] [(.int i4), (.int i2), (.int i1), (.int (3 : Int32))])) (fun t k => XS.iload X56.here hx rfl (hb hby at_83) rfl k) ?_
    obtain ⟨_, _, ⟨T57, L57, k57, n57⟩, -, X57, ⟨Lc57, hQ57, l57, y57, z57⟩, st57⟩ := Jvm.LawKit.callS X56 hx (y := (⟨"com/example/processes_as_trees/processesastrees/StateTupleHashCodePinLaw", "make", "(IIII)[I"⟩ : MethodName)) hown (mvT hZ (hw _ (List.mem_of_getElem? (i := 0) rfl))) (mvT hZ (hw _ (List.mem_of_getElem? (i := 1) rfl))) (mvT hZ (hw _ (List.mem_of_getElem? (i := 2) rfl))) (mvT hZ (hw _ (List.mem_of_getElem? (i := 3) rfl))) (by decide) (backOf (W := 0) (rmM3 l Z a0 hw [] i1 i2 i4 T56.heap n0 Zs) hZ (hw _ (List.mem_of_getElem? (i := 3) rfl)) (hw _ (List.mem_of_getElem? (i := 2) rfl)) (by decide) (by decide)) (g := (mkF m 85 #[.val (.int i0), .val (.int i1), .val (.int i2), .val (.int i3), .val (.int i4), .val (.int (3 : Int32)), .val (.ref b55), .val (.ref b56), .unset, .unset, .unset, .unset, .unset, .unset] [(.int i4), (.int i2), (.int i1), (.int (3 : Int32))])) rfl (by rw [hml]; rfl) (argsL := [(.int (3 : Int32)), (.int i1), (.int i2), (.int i4)]) (rest := []) (lenOf own_pd1 rfl) rfl (by show 2 * 0 + _ ≤ _; exact Nat.le_of_eq rfl) (hb hby at_85) (fun _ _ => ⟨rfl, rfl, (by decide : 2 + 1 ≤ _), (by decide : 6 + 3 ≤ _)⟩)
    dsimp only [Pt.U, Pt.locs, Pt.cells, Pt.slots] at X57 l57 y57 z57 st57 hQ57
    subst l57 y57 z57
    obtain ⟨rfl, Nq57, Kc57, f57, Vc57, hf57_0, hf57_1, hf57_2⟩ := hQ57
    have Nf := Fr.app Nf Nq57
    obtain ⟨b57, gq57⟩ : ∃ z, z = T56.heap.size := ⟨_, rfl⟩
    rw [← gq57] at Vc57 st57
    have ne_b55_b57 : b55 ≠ b57 := Nat.ne_of_lt (Nat.lt_of_lt_of_le V_b55.lt (Nat.le_of_eq gq57.symm))
    have ne_b56_b57 : b56 ≠ b57 := Nat.ne_of_lt (Nat.lt_of_lt_of_le V_b56.lt (Nat.le_of_eq gq57.symm))
    have g_b57 : n0 ≤ b57 := Nat.le_trans Zs (Nat.le_of_eq gq57.symm)
    have V_b55 := V_b55.keep Kc57 nin0
    have V_b56 := V_b56.keep Kc57 nin0
    have Zs := Nat.le_trans Zs Kc57.1
    have V_b57 := Vc57
    refine own_by (B := T57.setTop (mkF m 88 #[.val (.int i0), .val (.int i1), .val (.int i2), .val (.int i3), .val (.int i4), .val (.int (3 : Int32)), .val (.ref b55), .val (.ref b56), .unset, .unset, .unset, .unset, .unset, .unset] [(.ref b57)])) st57 ?_
    refine own_by (B := T57.setTop (mkF m 90 #[.val (.int i0), .val (.int i1), .val (.int i2), .val (.int i3), .val (.int i4), .val (.int (3 : Int32)), .val (.ref b55), .val (.ref b56), .val (.ref b57), .unset, .unset, .unset, .unset, .unset] [])) (fun t k => XS.astore X57.here hx rfl (hb hby at_88) rfl rfl (l' := #[.val (.int i0), .val (.int i1), .val (.int i2), .val (.int i3), .val (.int i4), .val (.int (3 : Int32)), .val (.ref b55), .val (.ref b56), .val (.ref b57), .unset, .unset, .unset, .unset, .unset]) rfl k) ?_
    refine own_by (B := T57.setTop (mkF m 92 #[.val (.int i0), .val (.int i1), .val (.int i2), .val (.int i3), .val (.int i4), .val (.int (3 : Int32)), .val (.ref b55), .val (.ref b56), .val (.ref b57), .unset, .unset, .unset, .unset, .unset] [(.int (3 : Int32))])) (fun t k => XS.iload X57.here hx rfl (hb hby at_90) rfl k) ?_
    refine own_by (B := T57.setTop (mkF m 93 #[.val (.int i0), .val (.int i1), .val (.int i2), .val (.int i3), .val (.int i4), .val (.int (3 : Int32)), .val (.ref b55), .val (.ref b56), .val (.ref b57), .unset, .unset, .unset, .unset, .unset] [(.int (1 : Int32)), (.int (3 : Int32))])) (fun t k => XS.iconst X57.here hx rfl (hb hby at_92) k) ?_
    refine own_by (B := T57.setTop (mkF m 102 #[.val (.int i0), .val (.int i1), .val (.int i2), .val (.int i3), .val (.int i4), .val (.int (3 : Int32)), .val (.ref b55), .val (.ref b56), .val (.ref b57), .unset, .unset, .unset, .unset, .unset] [])) (fun t k => XS.icmpYes X57.here hx rfl (pc0 := 93) (pc' := 102) rfl (hb hby at_93) rfl (feq (by decide)).2 (by decide) (by decide) k) ?_
    refine own_by (B := T57.setTop (mkF m 104 #[.val (.int i0), .val (.int i1), .val (.int i2), .val (.int i3), .val (.int i4), .val (.int (3 : Int32)), .val (.ref b55), .val (.ref b56), .val (.ref b57), .unset, .unset, .unset, .unset, .unset] [(.int (3 : Int32))])) (fun t k => XS.iload X57.here hx rfl (hb hby at_102) rfl k) ?_
    refine own_by (B := T57.setTop (mkF m 105 #[.val (.int i0), .val (.int i1), .val (.int i2), .val (.int i3), .val (.int i4), .val (.int (3 : Int32)), .val (.ref b55), .val (.ref b56), .val (.ref b57), .unset, .unset, .unset, .unset, .unset] [(.int (2 : Int32)), (.int (3 : Int32))])) (fun t k => XS.iconst X57.here hx rfl (hb hby at_104) k) ?_
    refine own_by (B := T57.setTop (mkF m 114 #[.val (.int i0), .val (.int i1), .val (.int i2), .val (.int i3), .val (.int i4), .val (.int (3 : Int32)), .val (.ref b55), .val (.ref b56), .val (.ref b57), .unset, .unset, .unset, .unset, .unset] [])) (fun t k => XS.icmpYes X57.here hx rfl (pc0 := 105) (pc' := 114) rfl (hb hby at_105) rfl (feq (by decide)).2 (by decide) (by decide) k) ?_
    refine own_by (B := T57.setTop (mkF m 115 #[.val (.int i0), .val (.int i1), .val (.int i2), .val (.int i3), .val (.int i4), .val (.int (3 : Int32)), .val (.ref b55), .val (.ref b56), .val (.ref b57), .unset, .unset, .unset, .unset, .unset] [(.int i3)])) (fun t k => XS.iloadN X57.here hx rfl (hb hby at_114) rfl k) ?_
    refine own_by (B := T57.setTop (mkF m 117 #[.val (.int i0), .val (.int i1), .val (.int i2), .val (.int i3), .val (.int i4), .val (.int (3 : Int32)), .val (.ref b55), .val (.ref b56), .val (.ref b57), .val (.int i3), .unset, .unset, .unset, .unset] [])) (fun t k => XS.istore X57.here hx rfl (hb hby at_115) rfl (l' := #[.val (.int i0), .val (.int i1), .val (.int i2), .val (.int i3), .val (.int i4), .val (.int (3 : Int32)), .val (.ref b55), .val (.ref b56), .val (.ref b57), .val (.int i3), .unset, .unset, .unset, .unset]) rfl k) ?_
    refine own_by (B := T57.setTop (mkF m 119 #[.val (.int i0), .val (.int i1), .val (.int i2), .val (.int i3), .val (.int i4), .val (.int (3 : Int32)), .val (.ref b55), .val (.ref b56), .val (.ref b57), .val (.int i3), .unset, .unset, .unset, .unset] [(.int (3 : Int32))])) (fun t k => XS.iload X57.here hx rfl (hb hby at_117) rfl k) ?_
    refine own_by (B := T57.setTop (mkF m 122 #[.val (.int i0), .val (.int i1), .val (.int i2), .val (.int i3), .val (.int i4), .val (.int (3 : Int32)), .val (.ref b55), .val (.ref b56), .val (.ref b57), .val (.int i3), .unset, .unset, .unset, .unset] [])) (fun t k => XS.ifNo X57.here hx rfl (hb hby at_119) rfl ((if0 _ _).trans (feq (by decide)).1) k) ?_
    refine own_by (B := T57.setTop (mkF m 124 #[.val (.int i0), .val (.int i1), .val (.int i2), .val (.int i3), .val (.int i4), .val (.int (3 : Int32)), .val (.ref b55), .val (.ref b56), .val (.ref b57), .val (.int i3), .unset, .unset, .unset, .unset] [(.int i3)])) (fun t k => XS.iload X57.here hx rfl (hb hby at_122) rfl k) ?_
    refine own_by (B := T57.setTop (mkF m 126 #[.val (.int i0), .val (.int i1), .val (.int i2), .val (.int i3), .val (.int i4), .val (.int (3 : Int32)), .val (.ref b55), .val (.ref b56), .val (.ref b57), .val (.int i3), .unset, .unset, .unset, .unset] [(.int i4), (.int i3)])) (fun t k => XS.iload X57.here hx rfl (hb hby at_124) rfl k) ?_
    by_cases hc126 : i3 = i4
    · refine own_by (B := T57.setTop (mkF m 129 #[.val (.int i0), .val (.int i1), .val (.int i2), .val (.int i3), .val (.int i4), .val (.int (3 : Int32)), .val (.ref b55), .val (.ref b56), .val (.ref b57), .val (.int i3), .unset, .unset, .unset, .unset] [])) (fun t k => XS.icmpNo X57.here hx rfl (hb hby at_126) rfl (teq hc126).2 k) ?_
      refine own_by (B := T57.setTop (mkF m 130 #[.val (.int i0), .val (.int i1), .val (.int i2), .val (.int i3), .val (.int i4), .val (.int (3 : Int32)), .val (.ref b55), .val (.ref b56), .val (.ref b57), .val (.int i3), .unset, .unset, .unset, .unset] [(.int (1 : Int32))])) (fun t k => XS.iconst X57.here hx rfl (hb hby at_129) k) ?_
      refine own_by (B := T57.setTop (mkF m 134 #[.val (.int i0), .val (.int i1), .val (.int i2), .val (.int i3), .val (.int i4), .val (.int (3 : Int32)), .val (.ref b55), .val (.ref b56), .val (.ref b57), .val (.int i3), .unset, .unset, .unset, .unset] [(.int (1 : Int32))])) (fun t k => XS.goto X57.here hx rfl (pc0 := 130) (pc' := 134) rfl (hb hby at_130) (by decide) (by decide) k) ?_
      refine own_by (B := T57.setTop (mkF m 136 #[.val (.int i0), .val (.int i1), .val (.int i2), .val (.int i3), .val (.int i4), .val (.int (3 : Int32)), .val (.ref b55), .val (.ref b56), .val (.ref b57), .val (.int i3), .val (.int (1 : Int32)), .unset, .unset, .unset] [])) (fun t k => XS.istore X57.here hx rfl (hb hby at_134) rfl (l' := #[.val (.int i0), .val (.int i1), .val (.int i2), .val (.int i3), .val (.int i4), .val (.int (3 : Int32)), .val (.ref b55), .val (.ref b56), .val (.ref b57), .val (.int i3), .val (.int (1 : Int32)), .unset, .unset, .unset]) rfl k) ?_
      obtain ⟨T58, h58, X58, e58, E58, A58, D58, -, st58⟩ := newO X57 hx hZ hown (hw _ (List.mem_of_getElem? (i := 5) rfl)) (hw _ (List.mem_of_getElem? (i := 6) rfl)) (hw _ (List.mem_of_getElem? (i := 7) rfl)) rfl (g := (mkF m 136 #[.val (.int i0), .val (.int i1), .val (.int i2), .val (.int i3), .val (.int i4), .val (.int (3 : Int32)), .val (.ref b55), .val (.ref b56), .val (.ref b57), .val (.int i3), .val (.int (1 : Int32)), .unset, .unset, .unset] [])) rfl (hb hby at_136) (by decide) (by decide)
      obtain ⟨b58, gq58⟩ : ∃ z, z = T57.heap.size := ⟨_, rfl⟩
      rw [← gq58] at A58 D58 st58
      have ne_b55_b58 : b55 ≠ b58 := Nat.ne_of_lt (Nat.lt_of_lt_of_le V_b55.lt (Nat.le_of_eq gq58.symm))
      have ne_b56_b58 : b56 ≠ b58 := Nat.ne_of_lt (Nat.lt_of_lt_of_le V_b56.lt (Nat.le_of_eq gq58.symm))
      have ne_b57_b58 : b57 ≠ b58 := Nat.ne_of_lt (Nat.lt_of_lt_of_le V_b57.lt (Nat.le_of_eq gq58.symm))
      have g_b58 : n0 ≤ b58 := Nat.le_trans Zs (Nat.le_of_eq gq58.symm)
      have V_b55 := V_b55.ext E58
      have V_b56 := V_b56.ext E58
      have V_b57 := V_b57.ext E58
      have Zs := Nat.le_trans Zs E58.1
      have E_b58 := A58
      have F_states_b58 : Fld Z h58 b58 "com/example/processes_as_trees/processesastrees/StateTuple" "states" "[I" .null := D58 (Or.inr (hw _ (List.mem_of_getElem? (i := 20) rfl))) (ty := (.array .int)) (by decide)
      refine own_by (B := T58.setTop (mkF m 139 #[.val (.int i0), .val (.int i1), .val (.int i2), .val (.int i3), .val (.int i4), .val (.int (3 : Int32)), .val (.ref b55), .val (.ref b56), .val (.ref b57), .val (.int i3), .val (.int (1 : Int32)), .unset, .unset, .unset] [(.ref b58)])) st58 ?_
      refine own_by (B := T58.setTop (mkF m 140 #[.val (.int i0), .val (.int i1), .val (.int i2), .val (.int i3), .val (.int i4), .val (.int (3 : Int32)), .val (.ref b55), .val (.ref b56), .val (.ref b57), .val (.int i3), .val (.int (1 : Int32)), .unset, .unset, .unset] [(.ref b58), (.ref b58)])) (fun t k => XS.dup X58.here hx rfl (hb hby at_139) rfl rfl k) ?_
      refine own_by (B := T58.setTop (mkF m 142 #[.val (.int i0), .val (.int i1), .val (.int i2), .val (.int i3), .val (.int i4), .val (.int (3 : Int32)), .val (.ref b55), .val (.ref b56), .val (.ref b57), .val (.int i3), .val (.int (1 : Int32)), .unset, .unset, .unset] [(.ref b55), (.ref b58), (.ref b58)])) (fun t k => XS.aload X58.here hx rfl (hb hby at_140) rfl rfl k) ?_
      obtain ⟨_, _, ⟨T59, L59, k59, n59⟩, -, X59, ⟨Lc59, hQ59, l59, y59, z59⟩, st59⟩ := X58.specialBack hx (y := (⟨"com/example/processes_as_trees/processesastrees/StateTuple", "<init>", "([I)V"⟩ : MethodName)) rfl hown (mvT hZ (hw _ (List.mem_of_getElem? (i := 8) rfl))) (mvT hZ (hw _ (List.mem_of_getElem? (i := 9) rfl))) (mvT hZ (hw _ (List.mem_of_getElem? (i := 10) rfl))) (by decide) (backOf (W := 1) (rmI l Z a0 hw [] b58 b55 h58 n0 Zs E_b58 F_states_b58 g_b58) hZ (hw _ (List.mem_of_getElem? (i := 10) rfl)) (hw _ (List.mem_of_getElem? (i := 7) rfl)) (by decide) (by decide)) (g := (mkF m 142 #[.val (.int i0), .val (.int i1), .val (.int i2), .val (.int i3), .val (.int i4), .val (.int (3 : Int32)), .val (.ref b55), .val (.ref b56), .val (.ref b57), .val (.int i3), .val (.int (1 : Int32)), .unset, .unset, .unset] [(.ref b55), (.ref b58), (.ref b58)])) rfl (by rw [hml]; rfl) (Steps.refl _) (a := b58) (argsL := [(.ref b55)]) (rest := [(.ref b58)]) (lenOf own_pd2 rfl) rfl (by show 2 * 0 + _ ≤ _; exact Nat.le_of_eq rfl) (hb hby at_142) (fun _ _ => ⟨rfl, e58, (by decide : 4 + 0 ≤ _), (by decide : 10 + 0 ≤ _)⟩)
      dsimp only [Pt.U, Pt.locs, Pt.cells, Pt.slots] at X59 l59 y59 z59 st59 hQ59
      subst l59 y59 z59
      obtain ⟨rfl, Nq59, Kc59, Fc59⟩ := hQ59
      have Nf := Fr.app Nf Nq59
      have V_b55 := V_b55.keep Kc59 (ninS ne_b55_b58 nin0)
      have V_b56 := V_b56.keep Kc59 (ninS ne_b56_b58 nin0)
      have V_b57 := V_b57.keep Kc59 (ninS ne_b57_b58 nin0)
      have E_b58 := E_b58.keep Kc59
      have Zs := Nat.le_trans Zs Kc59.1
      have F_states_b58 := Fc59
      refine own_by (B := T59.setTop (mkF m 145 #[.val (.int i0), .val (.int i1), .val (.int i2), .val (.int i3), .val (.int i4), .val (.int (3 : Int32)), .val (.ref b55), .val (.ref b56), .val (.ref b57), .val (.int i3), .val (.int (1 : Int32)), .unset, .unset, .unset] [(.ref b58)])) (fun t k => st59.trans k) ?_
      obtain ⟨cq60, kq60, q60a, q60b, q60c⟩ := isOf hZ rfl E_b58
      obtain ⟨_, _, ⟨T60, L60, k60, n60⟩, -, X60, ⟨Lc60, hQ60, l60, y60, z60⟩, st60⟩ := X59.virtualBack hx (y := (⟨"com/example/processes_as_trees/processesastrees/StateTuple", "hashCode", "()I"⟩ : MethodName)) (z := (⟨"com/example/processes_as_trees/processesastrees/StateTuple", "hashCode", "()I"⟩ : MethodName)) hown (mvT hZ (hw _ (List.mem_of_getElem? (i := 21) rfl))) (mvT hZ (hw _ (List.mem_of_getElem? (i := 22) rfl))) (notFace_of_selects (args := #[]) (mvT hZ (hw _ (List.mem_of_getElem? (i := 24) rfl)))) (mvT hZ (hw _ (List.mem_of_getElem? (i := 24) rfl))) (mvT hZ (hw _ (List.mem_of_getElem? (i := 23) rfl))) (by decide) (backOf (W := 0) (rmH3 l Z a0 hw [] b58 b55 f55 i1 i2 i3 T59.heap n0 Zs F_states_b58 V_b55 hf55_0 hf55_1 hf55_2) hZ (hw _ (List.mem_of_getElem? (i := 25) rfl)) (hw _ (List.mem_of_getElem? (i := 7) rfl)) (by decide) (by decide)) q60a q60c (g := (mkF m 145 #[.val (.int i0), .val (.int i1), .val (.int i2), .val (.int i3), .val (.int i4), .val (.int (3 : Int32)), .val (.ref b55), .val (.ref b56), .val (.ref b57), .val (.int i3), .val (.int (1 : Int32)), .unset, .unset, .unset] [(.ref b58)])) rfl (by rw [hml]; rfl) (Steps.refl _) (argsL := []) (rest := []) (lenOf own_pd3 rfl) rfl (by show 2 * 0 + _ ≤ _; exact Nat.le_of_eq rfl) (hb hby at_145) (fun _ _ => ⟨rfl, rfl, (by decide : 4 + 0 ≤ _), (by decide : 10 + 0 ≤ _)⟩)
      dsimp only [Pt.U, Pt.locs, Pt.cells, Pt.slots] at X60 l60 y60 z60 st60 hQ60
      subst l60 y60 z60
      obtain ⟨rfl, Nq60, hp60⟩ := hQ60
      have Nf := Fr.app Nf Nq60
      have ec60 : T60.heap = T59.heap := hp60
      refine own_by (B := T60.setTop (mkF m 148 #[.val (.int i0), .val (.int i1), .val (.int i2), .val (.int i3), .val (.int i4), .val (.int (3 : Int32)), .val (.ref b55), .val (.ref b56), .val (.ref b57), .val (.int i3), .val (.int (1 : Int32)), .unset, .unset, .unset] [(.int (own_fin (own_mix (own_mix (own_mix (3 : Int32) i1) i2) i3)))])) (fun t k => st60.trans k) ?_
      refine own_by (B := T60.setTop (mkF m 150 #[.val (.int i0), .val (.int i1), .val (.int i2), .val (.int i3), .val (.int i4), .val (.int (3 : Int32)), .val (.ref b55), .val (.ref b56), .val (.ref b57), .val (.int i3), .val (.int (1 : Int32)), .val (.int (own_fin (own_mix (own_mix (own_mix (3 : Int32) i1) i2) i3))), .unset, .unset] [])) (fun t k => XS.istore X60.here hx rfl (hb hby at_148) rfl (l' := #[.val (.int i0), .val (.int i1), .val (.int i2), .val (.int i3), .val (.int i4), .val (.int (3 : Int32)), .val (.ref b55), .val (.ref b56), .val (.ref b57), .val (.int i3), .val (.int (1 : Int32)), .val (.int (own_fin (own_mix (own_mix (own_mix (3 : Int32) i1) i2) i3))), .unset, .unset]) rfl k) ?_
      obtain ⟨T61, h61, X61, e61, E61, A61, D61, -, st61⟩ := newO X60 hx hZ hown (hw _ (List.mem_of_getElem? (i := 5) rfl)) (hw _ (List.mem_of_getElem? (i := 6) rfl)) (hw _ (List.mem_of_getElem? (i := 7) rfl)) ec60 (g := (mkF m 150 #[.val (.int i0), .val (.int i1), .val (.int i2), .val (.int i3), .val (.int i4), .val (.int (3 : Int32)), .val (.ref b55), .val (.ref b56), .val (.ref b57), .val (.int i3), .val (.int (1 : Int32)), .val (.int (own_fin (own_mix (own_mix (own_mix (3 : Int32) i1) i2) i3))), .unset, .unset] [])) rfl (hb hby at_150) (by decide) (by decide)
      obtain ⟨b61, gq61⟩ : ∃ z, z = T59.heap.size := ⟨_, rfl⟩
      rw [← gq61] at A61 D61 st61
      have ne_b55_b61 : b55 ≠ b61 := Nat.ne_of_lt (Nat.lt_of_lt_of_le V_b55.lt (Nat.le_of_eq gq61.symm))
      have ne_b56_b61 : b56 ≠ b61 := Nat.ne_of_lt (Nat.lt_of_lt_of_le V_b56.lt (Nat.le_of_eq gq61.symm))
      have ne_b57_b61 : b57 ≠ b61 := Nat.ne_of_lt (Nat.lt_of_lt_of_le V_b57.lt (Nat.le_of_eq gq61.symm))
      have ne_b58_b61 : b58 ≠ b61 := Nat.ne_of_lt (Nat.lt_of_lt_of_le E_b58.lt (Nat.le_of_eq gq61.symm))
      have g_b61 : n0 ≤ b61 := Nat.le_trans Zs (Nat.le_of_eq gq61.symm)
      have V_b55 := V_b55.ext E61
      have V_b56 := V_b56.ext E61
      have V_b57 := V_b57.ext E61
      have E_b58 := E_b58.ext E61
      have F_states_b58 := F_states_b58.ext E61
      have Zs := Nat.le_trans Zs E61.1
      have E_b61 := A61
      have F_states_b61 : Fld Z h61 b61 "com/example/processes_as_trees/processesastrees/StateTuple" "states" "[I" .null := D61 (Or.inr (hw _ (List.mem_of_getElem? (i := 20) rfl))) (ty := (.array .int)) (by decide)
      refine own_by (B := T61.setTop (mkF m 153 #[.val (.int i0), .val (.int i1), .val (.int i2), .val (.int i3), .val (.int i4), .val (.int (3 : Int32)), .val (.ref b55), .val (.ref b56), .val (.ref b57), .val (.int i3), .val (.int (1 : Int32)), .val (.int (own_fin (own_mix (own_mix (own_mix (3 : Int32) i1) i2) i3))), .unset, .unset] [(.ref b61)])) st61 ?_
      refine own_by (B := T61.setTop (mkF m 154 #[.val (.int i0), .val (.int i1), .val (.int i2), .val (.int i3), .val (.int i4), .val (.int (3 : Int32)), .val (.ref b55), .val (.ref b56), .val (.ref b57), .val (.int i3), .val (.int (1 : Int32)), .val (.int (own_fin (own_mix (own_mix (own_mix (3 : Int32) i1) i2) i3))), .unset, .unset] [(.ref b61), (.ref b61)])) (fun t k => XS.dup X61.here hx rfl (hb hby at_153) rfl rfl k) ?_
      refine own_by (B := T61.setTop (mkF m 156 #[.val (.int i0), .val (.int i1), .val (.int i2), .val (.int i3), .val (.int i4), .val (.int (3 : Int32)), .val (.ref b55), .val (.ref b56), .val (.ref b57), .val (.int i3), .val (.int (1 : Int32)), .val (.int (own_fin (own_mix (own_mix (own_mix (3 : Int32) i1) i2) i3))), .unset, .unset] [(.ref b56), (.ref b61), (.ref b61)])) (fun t k => XS.aload X61.here hx rfl (hb hby at_154) rfl rfl k) ?_
      obtain ⟨_, _, ⟨T62, L62, k62, n62⟩, -, X62, ⟨Lc62, hQ62, l62, y62, z62⟩, st62⟩ := X61.specialBack hx (y := (⟨"com/example/processes_as_trees/processesastrees/StateTuple", "<init>", "([I)V"⟩ : MethodName)) rfl hown (mvT hZ (hw _ (List.mem_of_getElem? (i := 8) rfl))) (mvT hZ (hw _ (List.mem_of_getElem? (i := 9) rfl))) (mvT hZ (hw _ (List.mem_of_getElem? (i := 10) rfl))) (by decide) (backOf (W := 1) (rmI l Z a0 hw [] b61 b56 h61 n0 Zs E_b61 F_states_b61 g_b61) hZ (hw _ (List.mem_of_getElem? (i := 10) rfl)) (hw _ (List.mem_of_getElem? (i := 7) rfl)) (by decide) (by decide)) (g := (mkF m 156 #[.val (.int i0), .val (.int i1), .val (.int i2), .val (.int i3), .val (.int i4), .val (.int (3 : Int32)), .val (.ref b55), .val (.ref b56), .val (.ref b57), .val (.int i3), .val (.int (1 : Int32)), .val (.int (own_fin (own_mix (own_mix (own_mix (3 : Int32) i1) i2) i3))), .unset, .unset] [(.ref b56), (.ref b61), (.ref b61)])) rfl (by rw [hml]; rfl) (Steps.refl _) (a := b61) (argsL := [(.ref b56)]) (rest := [(.ref b61)]) (lenOf own_pd2 rfl) rfl (by show 2 * 0 + _ ≤ _; exact Nat.le_of_eq rfl) (hb hby at_156) (fun _ _ => ⟨rfl, e61, (by decide : 5 + 0 ≤ _), (by decide : 11 + 0 ≤ _)⟩)
      dsimp only [Pt.U, Pt.locs, Pt.cells, Pt.slots] at X62 l62 y62 z62 st62 hQ62
      subst l62 y62 z62
      obtain ⟨rfl, Nq62, Kc62, Fc62⟩ := hQ62
      have Nf := Fr.app Nf Nq62
      have V_b55 := V_b55.keep Kc62 (ninS ne_b55_b61 nin0)
      have V_b56 := V_b56.keep Kc62 (ninS ne_b56_b61 nin0)
      have V_b57 := V_b57.keep Kc62 (ninS ne_b57_b61 nin0)
      have E_b58 := E_b58.keep Kc62
      have F_states_b58 := F_states_b58.keep Kc62 (ninS ne_b58_b61 nin0)
      have E_b61 := E_b61.keep Kc62
      have Zs := Nat.le_trans Zs Kc62.1
      have F_states_b61 := Fc62
      refine own_by (B := T62.setTop (mkF m 159 #[.val (.int i0), .val (.int i1), .val (.int i2), .val (.int i3), .val (.int i4), .val (.int (3 : Int32)), .val (.ref b55), .val (.ref b56), .val (.ref b57), .val (.int i3), .val (.int (1 : Int32)), .val (.int (own_fin (own_mix (own_mix (own_mix (3 : Int32) i1) i2) i3))), .unset, .unset] [(.ref b61)])) (fun t k => st62.trans k) ?_
      obtain ⟨cq63, kq63, q63a, q63b, q63c⟩ := isOf hZ rfl E_b61
      obtain ⟨_, _, ⟨T63, L63, k63, n63⟩, -, X63, ⟨Lc63, hQ63, l63, y63, z63⟩, st63⟩ := X62.virtualBack hx (y := (⟨"com/example/processes_as_trees/processesastrees/StateTuple", "hashCode", "()I"⟩ : MethodName)) (z := (⟨"com/example/processes_as_trees/processesastrees/StateTuple", "hashCode", "()I"⟩ : MethodName)) hown (mvT hZ (hw _ (List.mem_of_getElem? (i := 21) rfl))) (mvT hZ (hw _ (List.mem_of_getElem? (i := 22) rfl))) (notFace_of_selects (args := #[]) (mvT hZ (hw _ (List.mem_of_getElem? (i := 24) rfl)))) (mvT hZ (hw _ (List.mem_of_getElem? (i := 24) rfl))) (mvT hZ (hw _ (List.mem_of_getElem? (i := 23) rfl))) (by decide) (backOf (W := 0) (rmH3 l Z a0 hw [] b61 b56 f56 i1 i2 i3 T62.heap n0 Zs F_states_b61 V_b56 hf56_0 hf56_1 hf56_2) hZ (hw _ (List.mem_of_getElem? (i := 25) rfl)) (hw _ (List.mem_of_getElem? (i := 7) rfl)) (by decide) (by decide)) q63a q63c (g := (mkF m 159 #[.val (.int i0), .val (.int i1), .val (.int i2), .val (.int i3), .val (.int i4), .val (.int (3 : Int32)), .val (.ref b55), .val (.ref b56), .val (.ref b57), .val (.int i3), .val (.int (1 : Int32)), .val (.int (own_fin (own_mix (own_mix (own_mix (3 : Int32) i1) i2) i3))), .unset, .unset] [(.ref b61)])) rfl (by rw [hml]; rfl) (Steps.refl _) (argsL := []) (rest := []) (lenOf own_pd3 rfl) rfl (by show 2 * 0 + _ ≤ _; exact Nat.le_of_eq rfl) (hb hby at_159) (fun _ _ => ⟨rfl, rfl, (by decide : 5 + 0 ≤ _), (by decide : 11 + 0 ≤ _)⟩)
      dsimp only [Pt.U, Pt.locs, Pt.cells, Pt.slots] at X63 l63 y63 z63 st63 hQ63
      subst l63 y63 z63
      obtain ⟨rfl, Nq63, hp63⟩ := hQ63
      have Nf := Fr.app Nf Nq63
      have ec63 : T63.heap = T62.heap := hp63
      refine own_by (B := T63.setTop (mkF m 162 #[.val (.int i0), .val (.int i1), .val (.int i2), .val (.int i3), .val (.int i4), .val (.int (3 : Int32)), .val (.ref b55), .val (.ref b56), .val (.ref b57), .val (.int i3), .val (.int (1 : Int32)), .val (.int (own_fin (own_mix (own_mix (own_mix (3 : Int32) i1) i2) i3))), .unset, .unset] [(.int (own_fin (own_mix (own_mix (own_mix (3 : Int32) i1) i2) i3)))])) (fun t k => st63.trans k) ?_
      refine own_by (B := T63.setTop (mkF m 164 #[.val (.int i0), .val (.int i1), .val (.int i2), .val (.int i3), .val (.int i4), .val (.int (3 : Int32)), .val (.ref b55), .val (.ref b56), .val (.ref b57), .val (.int i3), .val (.int (1 : Int32)), .val (.int (own_fin (own_mix (own_mix (own_mix (3 : Int32) i1) i2) i3))), .val (.int (own_fin (own_mix (own_mix (own_mix (3 : Int32) i1) i2) i3))), .unset] [])) (fun t k => XS.istore X63.here hx rfl (hb hby at_162) rfl (l' := #[.val (.int i0), .val (.int i1), .val (.int i2), .val (.int i3), .val (.int i4), .val (.int (3 : Int32)), .val (.ref b55), .val (.ref b56), .val (.ref b57), .val (.int i3), .val (.int (1 : Int32)), .val (.int (own_fin (own_mix (own_mix (own_mix (3 : Int32) i1) i2) i3))), .val (.int (own_fin (own_mix (own_mix (own_mix (3 : Int32) i1) i2) i3))), .unset]) rfl k) ?_
      obtain ⟨T64, h64, X64, e64, E64, A64, D64, -, st64⟩ := newO X63 hx hZ hown (hw _ (List.mem_of_getElem? (i := 5) rfl)) (hw _ (List.mem_of_getElem? (i := 6) rfl)) (hw _ (List.mem_of_getElem? (i := 7) rfl)) ec63 (g := (mkF m 164 #[.val (.int i0), .val (.int i1), .val (.int i2), .val (.int i3), .val (.int i4), .val (.int (3 : Int32)), .val (.ref b55), .val (.ref b56), .val (.ref b57), .val (.int i3), .val (.int (1 : Int32)), .val (.int (own_fin (own_mix (own_mix (own_mix (3 : Int32) i1) i2) i3))), .val (.int (own_fin (own_mix (own_mix (own_mix (3 : Int32) i1) i2) i3))), .unset] [])) rfl (hb hby at_164) (by decide) (by decide)
      obtain ⟨b64, gq64⟩ : ∃ z, z = T62.heap.size := ⟨_, rfl⟩
      rw [← gq64] at A64 D64 st64
      have ne_b55_b64 : b55 ≠ b64 := Nat.ne_of_lt (Nat.lt_of_lt_of_le V_b55.lt (Nat.le_of_eq gq64.symm))
      have ne_b56_b64 : b56 ≠ b64 := Nat.ne_of_lt (Nat.lt_of_lt_of_le V_b56.lt (Nat.le_of_eq gq64.symm))
      have ne_b57_b64 : b57 ≠ b64 := Nat.ne_of_lt (Nat.lt_of_lt_of_le V_b57.lt (Nat.le_of_eq gq64.symm))
      have ne_b58_b64 : b58 ≠ b64 := Nat.ne_of_lt (Nat.lt_of_lt_of_le E_b58.lt (Nat.le_of_eq gq64.symm))
      have ne_b61_b64 : b61 ≠ b64 := Nat.ne_of_lt (Nat.lt_of_lt_of_le E_b61.lt (Nat.le_of_eq gq64.symm))
      have g_b64 : n0 ≤ b64 := Nat.le_trans Zs (Nat.le_of_eq gq64.symm)
      have V_b55 := V_b55.ext E64
      have V_b56 := V_b56.ext E64
      have V_b57 := V_b57.ext E64
      have E_b58 := E_b58.ext E64
      have F_states_b58 := F_states_b58.ext E64
      have E_b61 := E_b61.ext E64
      have F_states_b61 := F_states_b61.ext E64
      have Zs := Nat.le_trans Zs E64.1
      have E_b64 := A64
      have F_states_b64 : Fld Z h64 b64 "com/example/processes_as_trees/processesastrees/StateTuple" "states" "[I" .null := D64 (Or.inr (hw _ (List.mem_of_getElem? (i := 20) rfl))) (ty := (.array .int)) (by decide)
      refine own_by (B := T64.setTop (mkF m 167 #[.val (.int i0), .val (.int i1), .val (.int i2), .val (.int i3), .val (.int i4), .val (.int (3 : Int32)), .val (.ref b55), .val (.ref b56), .val (.ref b57), .val (.int i3), .val (.int (1 : Int32)), .val (.int (own_fin (own_mix (own_mix (own_mix (3 : Int32) i1) i2) i3))), .val (.int (own_fin (own_mix (own_mix (own_mix (3 : Int32) i1) i2) i3))), .unset] [(.ref b64)])) st64 ?_
      refine own_by (B := T64.setTop (mkF m 168 #[.val (.int i0), .val (.int i1), .val (.int i2), .val (.int i3), .val (.int i4), .val (.int (3 : Int32)), .val (.ref b55), .val (.ref b56), .val (.ref b57), .val (.int i3), .val (.int (1 : Int32)), .val (.int (own_fin (own_mix (own_mix (own_mix (3 : Int32) i1) i2) i3))), .val (.int (own_fin (own_mix (own_mix (own_mix (3 : Int32) i1) i2) i3))), .unset] [(.ref b64), (.ref b64)])) (fun t k => XS.dup X64.here hx rfl (hb hby at_167) rfl rfl k) ?_
      refine own_by (B := T64.setTop (mkF m 170 #[.val (.int i0), .val (.int i1), .val (.int i2), .val (.int i3), .val (.int i4), .val (.int (3 : Int32)), .val (.ref b55), .val (.ref b56), .val (.ref b57), .val (.int i3), .val (.int (1 : Int32)), .val (.int (own_fin (own_mix (own_mix (own_mix (3 : Int32) i1) i2) i3))), .val (.int (own_fin (own_mix (own_mix (own_mix (3 : Int32) i1) i2) i3))), .unset] [(.ref b57), (.ref b64), (.ref b64)])) (fun t k => XS.aload X64.here hx rfl (hb hby at_168) rfl rfl k) ?_
      obtain ⟨_, _, ⟨T65, L65, k65, n65⟩, -, X65, ⟨Lc65, hQ65, l65, y65, z65⟩, st65⟩ := X64.specialBack hx (y := (⟨"com/example/processes_as_trees/processesastrees/StateTuple", "<init>", "([I)V"⟩ : MethodName)) rfl hown (mvT hZ (hw _ (List.mem_of_getElem? (i := 8) rfl))) (mvT hZ (hw _ (List.mem_of_getElem? (i := 9) rfl))) (mvT hZ (hw _ (List.mem_of_getElem? (i := 10) rfl))) (by decide) (backOf (W := 1) (rmI l Z a0 hw [] b64 b57 h64 n0 Zs E_b64 F_states_b64 g_b64) hZ (hw _ (List.mem_of_getElem? (i := 10) rfl)) (hw _ (List.mem_of_getElem? (i := 7) rfl)) (by decide) (by decide)) (g := (mkF m 170 #[.val (.int i0), .val (.int i1), .val (.int i2), .val (.int i3), .val (.int i4), .val (.int (3 : Int32)), .val (.ref b55), .val (.ref b56), .val (.ref b57), .val (.int i3), .val (.int (1 : Int32)), .val (.int (own_fin (own_mix (own_mix (own_mix (3 : Int32) i1) i2) i3))), .val (.int (own_fin (own_mix (own_mix (own_mix (3 : Int32) i1) i2) i3))), .unset] [(.ref b57), (.ref b64), (.ref b64)])) rfl (by rw [hml]; rfl) (Steps.refl _) (a := b64) (argsL := [(.ref b57)]) (rest := [(.ref b64)]) (lenOf own_pd2 rfl) rfl (by show 2 * 0 + _ ≤ _; exact Nat.le_of_eq rfl) (hb hby at_170) (fun _ _ => ⟨rfl, e64, (by decide : 6 + 0 ≤ _), (by decide : 12 + 0 ≤ _)⟩)
      dsimp only [Pt.U, Pt.locs, Pt.cells, Pt.slots] at X65 l65 y65 z65 st65 hQ65
      subst l65 y65 z65
      obtain ⟨rfl, Nq65, Kc65, Fc65⟩ := hQ65
      have Nf := Fr.app Nf Nq65
      have V_b55 := V_b55.keep Kc65 (ninS ne_b55_b64 nin0)
      have V_b56 := V_b56.keep Kc65 (ninS ne_b56_b64 nin0)
      have V_b57 := V_b57.keep Kc65 (ninS ne_b57_b64 nin0)
      have E_b58 := E_b58.keep Kc65
      have F_states_b58 := F_states_b58.keep Kc65 (ninS ne_b58_b64 nin0)
      have E_b61 := E_b61.keep Kc65
      have F_states_b61 := F_states_b61.keep Kc65 (ninS ne_b61_b64 nin0)
      have E_b64 := E_b64.keep Kc65
      have Zs := Nat.le_trans Zs Kc65.1
      have F_states_b64 := Fc65
      refine own_by (B := T65.setTop (mkF m 173 #[.val (.int i0), .val (.int i1), .val (.int i2), .val (.int i3), .val (.int i4), .val (.int (3 : Int32)), .val (.ref b55), .val (.ref b56), .val (.ref b57), .val (.int i3), .val (.int (1 : Int32)), .val (.int (own_fin (own_mix (own_mix (own_mix (3 : Int32) i1) i2) i3))), .val (.int (own_fin (own_mix (own_mix (own_mix (3 : Int32) i1) i2) i3))), .unset] [(.ref b64)])) (fun t k => st65.trans k) ?_
      obtain ⟨cq66, kq66, q66a, q66b, q66c⟩ := isOf hZ rfl E_b64
      obtain ⟨_, _, ⟨T66, L66, k66, n66⟩, -, X66, ⟨Lc66, hQ66, l66, y66, z66⟩, st66⟩ := X65.virtualBack hx (y := (⟨"com/example/processes_as_trees/processesastrees/StateTuple", "hashCode", "()I"⟩ : MethodName)) (z := (⟨"com/example/processes_as_trees/processesastrees/StateTuple", "hashCode", "()I"⟩ : MethodName)) hown (mvT hZ (hw _ (List.mem_of_getElem? (i := 21) rfl))) (mvT hZ (hw _ (List.mem_of_getElem? (i := 22) rfl))) (notFace_of_selects (args := #[]) (mvT hZ (hw _ (List.mem_of_getElem? (i := 24) rfl)))) (mvT hZ (hw _ (List.mem_of_getElem? (i := 24) rfl))) (mvT hZ (hw _ (List.mem_of_getElem? (i := 23) rfl))) (by decide) (backOf (W := 0) (rmH3 l Z a0 hw [] b64 b57 f57 i1 i2 i4 T65.heap n0 Zs F_states_b64 V_b57 hf57_0 hf57_1 hf57_2) hZ (hw _ (List.mem_of_getElem? (i := 25) rfl)) (hw _ (List.mem_of_getElem? (i := 7) rfl)) (by decide) (by decide)) q66a q66c (g := (mkF m 173 #[.val (.int i0), .val (.int i1), .val (.int i2), .val (.int i3), .val (.int i4), .val (.int (3 : Int32)), .val (.ref b55), .val (.ref b56), .val (.ref b57), .val (.int i3), .val (.int (1 : Int32)), .val (.int (own_fin (own_mix (own_mix (own_mix (3 : Int32) i1) i2) i3))), .val (.int (own_fin (own_mix (own_mix (own_mix (3 : Int32) i1) i2) i3))), .unset] [(.ref b64)])) rfl (by rw [hml]; rfl) (Steps.refl _) (argsL := []) (rest := []) (lenOf own_pd3 rfl) rfl (by show 2 * 0 + _ ≤ _; exact Nat.le_of_eq rfl) (hb hby at_173) (fun _ _ => ⟨rfl, rfl, (by decide : 6 + 0 ≤ _), (by decide : 12 + 0 ≤ _)⟩)
      dsimp only [Pt.U, Pt.locs, Pt.cells, Pt.slots] at X66 l66 y66 z66 st66 hQ66
      subst l66 y66 z66
      obtain ⟨rfl, Nq66, hp66⟩ := hQ66
      have Nf := Fr.app Nf Nq66
      have ec66 : T66.heap = T65.heap := hp66
      refine own_by (B := T66.setTop (mkF m 176 #[.val (.int i0), .val (.int i1), .val (.int i2), .val (.int i3), .val (.int i4), .val (.int (3 : Int32)), .val (.ref b55), .val (.ref b56), .val (.ref b57), .val (.int i3), .val (.int (1 : Int32)), .val (.int (own_fin (own_mix (own_mix (own_mix (3 : Int32) i1) i2) i3))), .val (.int (own_fin (own_mix (own_mix (own_mix (3 : Int32) i1) i2) i3))), .unset] [(.int (own_fin (own_mix (own_mix (own_mix (3 : Int32) i1) i2) i4)))])) (fun t k => st66.trans k) ?_
      refine own_by (B := T66.setTop (mkF m 178 #[.val (.int i0), .val (.int i1), .val (.int i2), .val (.int i3), .val (.int i4), .val (.int (3 : Int32)), .val (.ref b55), .val (.ref b56), .val (.ref b57), .val (.int i3), .val (.int (1 : Int32)), .val (.int (own_fin (own_mix (own_mix (own_mix (3 : Int32) i1) i2) i3))), .val (.int (own_fin (own_mix (own_mix (own_mix (3 : Int32) i1) i2) i3))), .val (.int (own_fin (own_mix (own_mix (own_mix (3 : Int32) i1) i2) i4)))] [])) (fun t k => XS.istore X66.here hx rfl (hb hby at_176) rfl (l' := #[.val (.int i0), .val (.int i1), .val (.int i2), .val (.int i3), .val (.int i4), .val (.int (3 : Int32)), .val (.ref b55), .val (.ref b56), .val (.ref b57), .val (.int i3), .val (.int (1 : Int32)), .val (.int (own_fin (own_mix (own_mix (own_mix (3 : Int32) i1) i2) i3))), .val (.int (own_fin (own_mix (own_mix (own_mix (3 : Int32) i1) i2) i3))), .val (.int (own_fin (own_mix (own_mix (own_mix (3 : Int32) i1) i2) i4)))]) rfl k) ?_
      refine own_by (B := T66.setTop (mkF m 180 #[.val (.int i0), .val (.int i1), .val (.int i2), .val (.int i3), .val (.int i4), .val (.int (3 : Int32)), .val (.ref b55), .val (.ref b56), .val (.ref b57), .val (.int i3), .val (.int (1 : Int32)), .val (.int (own_fin (own_mix (own_mix (own_mix (3 : Int32) i1) i2) i3))), .val (.int (own_fin (own_mix (own_mix (own_mix (3 : Int32) i1) i2) i3))), .val (.int (own_fin (own_mix (own_mix (own_mix (3 : Int32) i1) i2) i4)))] [(.int (own_fin (own_mix (own_mix (own_mix (3 : Int32) i1) i2) i3)))])) (fun t k => XS.iload X66.here hx rfl (hb hby at_178) rfl k) ?_
      refine own_by (B := T66.setTop (mkF m 182 #[.val (.int i0), .val (.int i1), .val (.int i2), .val (.int i3), .val (.int i4), .val (.int (3 : Int32)), .val (.ref b55), .val (.ref b56), .val (.ref b57), .val (.int i3), .val (.int (1 : Int32)), .val (.int (own_fin (own_mix (own_mix (own_mix (3 : Int32) i1) i2) i3))), .val (.int (own_fin (own_mix (own_mix (own_mix (3 : Int32) i1) i2) i3))), .val (.int (own_fin (own_mix (own_mix (own_mix (3 : Int32) i1) i2) i4)))] [(.int (own_fin (own_mix (own_mix (own_mix (3 : Int32) i1) i2) i3))), (.int (own_fin (own_mix (own_mix (own_mix (3 : Int32) i1) i2) i3)))])) (fun t k => XS.iload X66.here hx rfl (hb hby at_180) rfl k) ?_
      refine own_by (B := T66.setTop (mkF m 185 #[.val (.int i0), .val (.int i1), .val (.int i2), .val (.int i3), .val (.int i4), .val (.int (3 : Int32)), .val (.ref b55), .val (.ref b56), .val (.ref b57), .val (.int i3), .val (.int (1 : Int32)), .val (.int (own_fin (own_mix (own_mix (own_mix (3 : Int32) i1) i2) i3))), .val (.int (own_fin (own_mix (own_mix (own_mix (3 : Int32) i1) i2) i3))), .val (.int (own_fin (own_mix (own_mix (own_mix (3 : Int32) i1) i2) i4)))] [])) (fun t k => XS.icmpNo X66.here hx rfl (hb hby at_182) rfl (teq rfl).2 k) ?_
      refine own_by (B := T66.setTop (mkF m 187 #[.val (.int i0), .val (.int i1), .val (.int i2), .val (.int i3), .val (.int i4), .val (.int (3 : Int32)), .val (.ref b55), .val (.ref b56), .val (.ref b57), .val (.int i3), .val (.int (1 : Int32)), .val (.int (own_fin (own_mix (own_mix (own_mix (3 : Int32) i1) i2) i3))), .val (.int (own_fin (own_mix (own_mix (own_mix (3 : Int32) i1) i2) i3))), .val (.int (own_fin (own_mix (own_mix (own_mix (3 : Int32) i1) i2) i4)))] [(.int (own_fin (own_mix (own_mix (own_mix (3 : Int32) i1) i2) i3)))])) (fun t k => XS.iload X66.here hx rfl (hb hby at_185) rfl k) ?_
      refine own_by (B := T66.setTop (mkF m 189 #[.val (.int i0), .val (.int i1), .val (.int i2), .val (.int i3), .val (.int i4), .val (.int (3 : Int32)), .val (.ref b55), .val (.ref b56), .val (.ref b57), .val (.int i3), .val (.int (1 : Int32)), .val (.int (own_fin (own_mix (own_mix (own_mix (3 : Int32) i1) i2) i3))), .val (.int (own_fin (own_mix (own_mix (own_mix (3 : Int32) i1) i2) i3))), .val (.int (own_fin (own_mix (own_mix (own_mix (3 : Int32) i1) i2) i4)))] [(.int (own_fin (own_mix (own_mix (own_mix (3 : Int32) i1) i2) i4))), (.int (own_fin (own_mix (own_mix (own_mix (3 : Int32) i1) i2) i3)))])) (fun t k => XS.iload X66.here hx rfl (hb hby at_187) rfl k) ?_
      refine own_by (B := T66.setTop (mkF m 192 #[.val (.int i0), .val (.int i1), .val (.int i2), .val (.int i3), .val (.int i4), .val (.int (3 : Int32)), .val (.ref b55), .val (.ref b56), .val (.ref b57), .val (.int i3), .val (.int (1 : Int32)), .val (.int (own_fin (own_mix (own_mix (own_mix (3 : Int32) i1) i2) i3))), .val (.int (own_fin (own_mix (own_mix (own_mix (3 : Int32) i1) i2) i3))), .val (.int (own_fin (own_mix (own_mix (own_mix (3 : Int32) i1) i2) i4)))] [])) (fun t k => XS.icmpNo X66.here hx rfl (hb hby at_189) rfl (teq (by rw [hc126] : (own_fin (own_mix (own_mix (own_mix (3 : Int32) i1) i2) i3)) = (own_fin (own_mix (own_mix (own_mix (3 : Int32) i1) i2) i4)))).2 k) ?_
      refine own_by (B := T66.setTop (mkF m 193 #[.val (.int i0), .val (.int i1), .val (.int i2), .val (.int i3), .val (.int i4), .val (.int (3 : Int32)), .val (.ref b55), .val (.ref b56), .val (.ref b57), .val (.int i3), .val (.int (1 : Int32)), .val (.int (own_fin (own_mix (own_mix (own_mix (3 : Int32) i1) i2) i3))), .val (.int (own_fin (own_mix (own_mix (own_mix (3 : Int32) i1) i2) i3))), .val (.int (own_fin (own_mix (own_mix (own_mix (3 : Int32) i1) i2) i4)))] [(.int (1 : Int32))])) (fun t k => XS.iconst X66.here hx rfl (hb hby at_192) k) ?_
      refine own_by (B := T66.setTop (mkF m 197 #[.val (.int i0), .val (.int i1), .val (.int i2), .val (.int i3), .val (.int i4), .val (.int (3 : Int32)), .val (.ref b55), .val (.ref b56), .val (.ref b57), .val (.int i3), .val (.int (1 : Int32)), .val (.int (own_fin (own_mix (own_mix (own_mix (3 : Int32) i1) i2) i3))), .val (.int (own_fin (own_mix (own_mix (own_mix (3 : Int32) i1) i2) i3))), .val (.int (own_fin (own_mix (own_mix (own_mix (3 : Int32) i1) i2) i4)))] [(.int (1 : Int32))])) (fun t k => XS.goto X66.here hx rfl (pc0 := 193) (pc' := 197) rfl (hb hby at_193) (by decide) (by decide) k) ?_
      refine own_by (B := T66.setTop (mkF m 199 #[.val (.int i0), .val (.int i1), .val (.int i2), .val (.int i3), .val (.int i4), .val (.int (3 : Int32)), .val (.ref b55), .val (.ref b56), .val (.ref b57), .val (.int i3), .val (.int (1 : Int32)), .val (.int (own_fin (own_mix (own_mix (own_mix (3 : Int32) i1) i2) i3))), .val (.int (own_fin (own_mix (own_mix (own_mix (3 : Int32) i1) i2) i3))), .val (.int (own_fin (own_mix (own_mix (own_mix (3 : Int32) i1) i2) i4)))] [(.int (1 : Int32)), (.int (1 : Int32))])) (fun t k => XS.iload X66.here hx rfl (hb hby at_197) rfl k) ?_
      refine own_by (B := T66.setTop (mkF m 202 #[.val (.int i0), .val (.int i1), .val (.int i2), .val (.int i3), .val (.int i4), .val (.int (3 : Int32)), .val (.ref b55), .val (.ref b56), .val (.ref b57), .val (.int i3), .val (.int (1 : Int32)), .val (.int (own_fin (own_mix (own_mix (own_mix (3 : Int32) i1) i2) i3))), .val (.int (own_fin (own_mix (own_mix (own_mix (3 : Int32) i1) i2) i3))), .val (.int (own_fin (own_mix (own_mix (own_mix (3 : Int32) i1) i2) i4)))] [])) (fun t k => XS.icmpNo X66.here hx rfl (hb hby at_199) rfl (teq (by decide)).2 k) ?_
      refine own_by (B := T66.setTop (mkF m 203 #[.val (.int i0), .val (.int i1), .val (.int i2), .val (.int i3), .val (.int i4), .val (.int (3 : Int32)), .val (.ref b55), .val (.ref b56), .val (.ref b57), .val (.int i3), .val (.int (1 : Int32)), .val (.int (own_fin (own_mix (own_mix (own_mix (3 : Int32) i1) i2) i3))), .val (.int (own_fin (own_mix (own_mix (own_mix (3 : Int32) i1) i2) i3))), .val (.int (own_fin (own_mix (own_mix (own_mix (3 : Int32) i1) i2) i4)))] [(.int (1 : Int32))])) (fun t k => XS.iconst X66.here hx rfl (hb hby at_202) k) ?_
      refine own_by (B := T66.setTop (mkF m 207 #[.val (.int i0), .val (.int i1), .val (.int i2), .val (.int i3), .val (.int i4), .val (.int (3 : Int32)), .val (.ref b55), .val (.ref b56), .val (.ref b57), .val (.int i3), .val (.int (1 : Int32)), .val (.int (own_fin (own_mix (own_mix (own_mix (3 : Int32) i1) i2) i3))), .val (.int (own_fin (own_mix (own_mix (own_mix (3 : Int32) i1) i2) i3))), .val (.int (own_fin (own_mix (own_mix (own_mix (3 : Int32) i1) i2) i4)))] [(.int (1 : Int32))])) (fun t k => XS.goto X66.here hx rfl (pc0 := 203) (pc' := 207) rfl (hb hby at_203) (by decide) (by decide) k) ?_
      exact own_end X66 (v := some (.int (1 : Int32))) (fun h => by rw [Bd.returns] at h; cases h) (BodyLoose.notSynchronized Bd) (Q := (Q_rm0 Z i0 i1 i2 i3 i4 h0 n0)) (fun fs hr => retN X66 hx (t := .boolean) Bd.returns (by simp) (hb hby at_207) hr) (show (Q_rm0 Z i0 i1 i2 i3 i4 h0 n0) _ T66.heap _ from (by rw [ec66]; exact ⟨rfl, Nf⟩)) (by decide) (by decide)
    · refine own_by (B := T57.setTop (mkF m 133 #[.val (.int i0), .val (.int i1), .val (.int i2), .val (.int i3), .val (.int i4), .val (.int (3 : Int32)), .val (.ref b55), .val (.ref b56), .val (.ref b57), .val (.int i3), .unset, .unset, .unset, .unset] [])) (fun t k => XS.icmpYes X57.here hx rfl (pc0 := 126) (pc' := 133) rfl (hb hby at_126) rfl (feq hc126).2 (by decide) (by decide) k) ?_
      refine own_by (B := T57.setTop (mkF m 134 #[.val (.int i0), .val (.int i1), .val (.int i2), .val (.int i3), .val (.int i4), .val (.int (3 : Int32)), .val (.ref b55), .val (.ref b56), .val (.ref b57), .val (.int i3), .unset, .unset, .unset, .unset] [(.int (0 : Int32))])) (fun t k => XS.iconst X57.here hx rfl (hb hby at_133) k) ?_
      refine own_by (B := T57.setTop (mkF m 136 #[.val (.int i0), .val (.int i1), .val (.int i2), .val (.int i3), .val (.int i4), .val (.int (3 : Int32)), .val (.ref b55), .val (.ref b56), .val (.ref b57), .val (.int i3), .val (.int (0 : Int32)), .unset, .unset, .unset] [])) (fun t k => XS.istore X57.here hx rfl (hb hby at_134) rfl (l' := #[.val (.int i0), .val (.int i1), .val (.int i2), .val (.int i3), .val (.int i4), .val (.int (3 : Int32)), .val (.ref b55), .val (.ref b56), .val (.ref b57), .val (.int i3), .val (.int (0 : Int32)), .unset, .unset, .unset]) rfl k) ?_
      obtain ⟨T67, h67, X67, e67, E67, A67, D67, -, st67⟩ := newO X57 hx hZ hown (hw _ (List.mem_of_getElem? (i := 5) rfl)) (hw _ (List.mem_of_getElem? (i := 6) rfl)) (hw _ (List.mem_of_getElem? (i := 7) rfl)) rfl (g := (mkF m 136 #[.val (.int i0), .val (.int i1), .val (.int i2), .val (.int i3), .val (.int i4), .val (.int (3 : Int32)), .val (.ref b55), .val (.ref b56), .val (.ref b57), .val (.int i3), .val (.int (0 : Int32)), .unset, .unset, .unset] [])) rfl (hb hby at_136) (by decide) (by decide)
      obtain ⟨b67, gq67⟩ : ∃ z, z = T57.heap.size := ⟨_, rfl⟩
      rw [← gq67] at A67 D67 st67
      have ne_b55_b67 : b55 ≠ b67 := Nat.ne_of_lt (Nat.lt_of_lt_of_le V_b55.lt (Nat.le_of_eq gq67.symm))
      have ne_b56_b67 : b56 ≠ b67 := Nat.ne_of_lt (Nat.lt_of_lt_of_le V_b56.lt (Nat.le_of_eq gq67.symm))
      have ne_b57_b67 : b57 ≠ b67 := Nat.ne_of_lt (Nat.lt_of_lt_of_le V_b57.lt (Nat.le_of_eq gq67.symm))
      have g_b67 : n0 ≤ b67 := Nat.le_trans Zs (Nat.le_of_eq gq67.symm)
      have V_b55 := V_b55.ext E67
      have V_b56 := V_b56.ext E67
      have V_b57 := V_b57.ext E67
      have Zs := Nat.le_trans Zs E67.1
      have E_b67 := A67
      have F_states_b67 : Fld Z h67 b67 "com/example/processes_as_trees/processesastrees/StateTuple" "states" "[I" .null := D67 (Or.inr (hw _ (List.mem_of_getElem? (i := 20) rfl))) (ty := (.array .int)) (by decide)
      refine own_by (B := T67.setTop (mkF m 139 #[.val (.int i0), .val (.int i1), .val (.int i2), .val (.int i3), .val (.int i4), .val (.int (3 : Int32)), .val (.ref b55), .val (.ref b56), .val (.ref b57), .val (.int i3), .val (.int (0 : Int32)), .unset, .unset, .unset] [(.ref b67)])) st67 ?_
      refine own_by (B := T67.setTop (mkF m 140 #[.val (.int i0), .val (.int i1), .val (.int i2), .val (.int i3), .val (.int i4), .val (.int (3 : Int32)), .val (.ref b55), .val (.ref b56), .val (.ref b57), .val (.int i3), .val (.int (0 : Int32)), .unset, .unset, .unset] [(.ref b67), (.ref b67)])) (fun t k => XS.dup X67.here hx rfl (hb hby at_139) rfl rfl k) ?_
      refine own_by (B := T67.setTop (mkF m 142 #[.val (.int i0), .val (.int i1), .val (.int i2), .val (.int i3), .val (.int i4), .val (.int (3 : Int32)), .val (.ref b55), .val (.ref b56), .val (.ref b57), .val (.int i3), .val (.int (0 : Int32)), .unset, .unset, .unset] [(.ref b55), (.ref b67), (.ref b67)])) (fun t k => XS.aload X67.here hx rfl (hb hby at_140) rfl rfl k) ?_
      obtain ⟨_, _, ⟨T68, L68, k68, n68⟩, -, X68, ⟨Lc68, hQ68, l68, y68, z68⟩, st68⟩ := X67.specialBack hx (y := (⟨"com/example/processes_as_trees/processesastrees/StateTuple", "<init>", "([I)V"⟩ : MethodName)) rfl hown (mvT hZ (hw _ (List.mem_of_getElem? (i := 8) rfl))) (mvT hZ (hw _ (List.mem_of_getElem? (i := 9) rfl))) (mvT hZ (hw _ (List.mem_of_getElem? (i := 10) rfl))) (by decide) (backOf (W := 1) (rmI l Z a0 hw [] b67 b55 h67 n0 Zs E_b67 F_states_b67 g_b67) hZ (hw _ (List.mem_of_getElem? (i := 10) rfl)) (hw _ (List.mem_of_getElem? (i := 7) rfl)) (by decide) (by decide)) (g := (mkF m 142 #[.val (.int i0), .val (.int i1), .val (.int i2), .val (.int i3), .val (.int i4), .val (.int (3 : Int32)), .val (.ref b55), .val (.ref b56), .val (.ref b57), .val (.int i3), .val (.int (0 : Int32)), .unset, .unset, .unset] [(.ref b55), (.ref b67), (.ref b67)])) rfl (by rw [hml]; rfl) (Steps.refl _) (a := b67) (argsL := [(.ref b55)]) (rest := [(.ref b67)]) (lenOf own_pd2 rfl) rfl (by show 2 * 0 + _ ≤ _; exact Nat.le_of_eq rfl) (hb hby at_142) (fun _ _ => ⟨rfl, e67, (by decide : 4 + 0 ≤ _), (by decide : 10 + 0 ≤ _)⟩)
      dsimp only [Pt.U, Pt.locs, Pt.cells, Pt.slots] at X68 l68 y68 z68 st68 hQ68
      subst l68 y68 z68
      obtain ⟨rfl, Nq68, Kc68, Fc68⟩ := hQ68
      have Nf := Fr.app Nf Nq68
      have V_b55 := V_b55.keep Kc68 (ninS ne_b55_b67 nin0)
      have V_b56 := V_b56.keep Kc68 (ninS ne_b56_b67 nin0)
      have V_b57 := V_b57.keep Kc68 (ninS ne_b57_b67 nin0)
      have E_b67 := E_b67.keep Kc68
      have Zs := Nat.le_trans Zs Kc68.1
      have F_states_b67 := Fc68
      refine own_by (B := T68.setTop (mkF m 145 #[.val (.int i0), .val (.int i1), .val (.int i2), .val (.int i3), .val (.int i4), .val (.int (3 : Int32)), .val (.ref b55), .val (.ref b56), .val (.ref b57), .val (.int i3), .val (.int (0 : Int32)), .unset, .unset, .unset] [(.ref b67)])) (fun t k => st68.trans k) ?_
      obtain ⟨cq69, kq69, q69a, q69b, q69c⟩ := isOf hZ rfl E_b67
      obtain ⟨_, _, ⟨T69, L69, k69, n69⟩, -, X69, ⟨Lc69, hQ69, l69, y69, z69⟩, st69⟩ := X68.virtualBack hx (y := (⟨"com/example/processes_as_trees/processesastrees/StateTuple", "hashCode", "()I"⟩ : MethodName)) (z := (⟨"com/example/processes_as_trees/processesastrees/StateTuple", "hashCode", "()I"⟩ : MethodName)) hown (mvT hZ (hw _ (List.mem_of_getElem? (i := 21) rfl))) (mvT hZ (hw _ (List.mem_of_getElem? (i := 22) rfl))) (notFace_of_selects (args := #[]) (mvT hZ (hw _ (List.mem_of_getElem? (i := 24) rfl)))) (mvT hZ (hw _ (List.mem_of_getElem? (i := 24) rfl))) (mvT hZ (hw _ (List.mem_of_getElem? (i := 23) rfl))) (by decide) (backOf (W := 0) (rmH3 l Z a0 hw [] b67 b55 f55 i1 i2 i3 T68.heap n0 Zs F_states_b67 V_b55 hf55_0 hf55_1 hf55_2) hZ (hw _ (List.mem_of_getElem? (i := 25) rfl)) (hw _ (List.mem_of_getElem? (i := 7) rfl)) (by decide) (by decide)) q69a q69c (g := (mkF m 145 #[.val (.int i0), .val (.int i1), .val (.int i2), .val (.int i3), .val (.int i4), .val (.int (3 : Int32)), .val (.ref b55), .val (.ref b56), .val (.ref b57), .val (.int i3), .val (.int (0 : Int32)), .unset, .unset, .unset] [(.ref b67)])) rfl (by rw [hml]; rfl) (Steps.refl _) (argsL := []) (rest := []) (lenOf own_pd3 rfl) rfl (by show 2 * 0 + _ ≤ _; exact Nat.le_of_eq rfl) (hb hby at_145) (fun _ _ => ⟨rfl, rfl, (by decide : 4 + 0 ≤ _), (by decide : 10 + 0 ≤ _)⟩)
      dsimp only [Pt.U, Pt.locs, Pt.cells, Pt.slots] at X69 l69 y69 z69 st69 hQ69
      subst l69 y69 z69
      obtain ⟨rfl, Nq69, hp69⟩ := hQ69
      have Nf := Fr.app Nf Nq69
      have ec69 : T69.heap = T68.heap := hp69
      refine own_by (B := T69.setTop (mkF m 148 #[.val (.int i0), .val (.int i1), .val (.int i2), .val (.int i3), .val (.int i4), .val (.int (3 : Int32)), .val (.ref b55), .val (.ref b56), .val (.ref b57), .val (.int i3), .val (.int (0 : Int32)), .unset, .unset, .unset] [(.int (own_fin (own_mix (own_mix (own_mix (3 : Int32) i1) i2) i3)))])) (fun t k => st69.trans k) ?_
      refine own_by (B := T69.setTop (mkF m 150 #[.val (.int i0), .val (.int i1), .val (.int i2), .val (.int i3), .val (.int i4), .val (.int (3 : Int32)), .val (.ref b55), .val (.ref b56), .val (.ref b57), .val (.int i3), .val (.int (0 : Int32)), .val (.int (own_fin (own_mix (own_mix (own_mix (3 : Int32) i1) i2) i3))), .unset, .unset] [])) (fun t k => XS.istore X69.here hx rfl (hb hby at_148) rfl (l' := #[.val (.int i0), .val (.int i1), .val (.int i2), .val (.int i3), .val (.int i4), .val (.int (3 : Int32)), .val (.ref b55), .val (.ref b56), .val (.ref b57), .val (.int i3), .val (.int (0 : Int32)), .val (.int (own_fin (own_mix (own_mix (own_mix (3 : Int32) i1) i2) i3))), .unset, .unset]) rfl k) ?_
      obtain ⟨T70, h70, X70, e70, E70, A70, D70, -, st70⟩ := newO X69 hx hZ hown (hw _ (List.mem_of_getElem? (i := 5) rfl)) (hw _ (List.mem_of_getElem? (i := 6) rfl)) (hw _ (List.mem_of_getElem? (i := 7) rfl)) ec69 (g := (mkF m 150 #[.val (.int i0), .val (.int i1), .val (.int i2), .val (.int i3), .val (.int i4), .val (.int (3 : Int32)), .val (.ref b55), .val (.ref b56), .val (.ref b57), .val (.int i3), .val (.int (0 : Int32)), .val (.int (own_fin (own_mix (own_mix (own_mix (3 : Int32) i1) i2) i3))), .unset, .unset] [])) rfl (hb hby at_150) (by decide) (by decide)
      obtain ⟨b70, gq70⟩ : ∃ z, z = T68.heap.size := ⟨_, rfl⟩
      rw [← gq70] at A70 D70 st70
      have ne_b55_b70 : b55 ≠ b70 := Nat.ne_of_lt (Nat.lt_of_lt_of_le V_b55.lt (Nat.le_of_eq gq70.symm))
      have ne_b56_b70 : b56 ≠ b70 := Nat.ne_of_lt (Nat.lt_of_lt_of_le V_b56.lt (Nat.le_of_eq gq70.symm))
      have ne_b57_b70 : b57 ≠ b70 := Nat.ne_of_lt (Nat.lt_of_lt_of_le V_b57.lt (Nat.le_of_eq gq70.symm))
      have ne_b67_b70 : b67 ≠ b70 := Nat.ne_of_lt (Nat.lt_of_lt_of_le E_b67.lt (Nat.le_of_eq gq70.symm))
      have g_b70 : n0 ≤ b70 := Nat.le_trans Zs (Nat.le_of_eq gq70.symm)
      have V_b55 := V_b55.ext E70
      have V_b56 := V_b56.ext E70
      have V_b57 := V_b57.ext E70
      have E_b67 := E_b67.ext E70
      have F_states_b67 := F_states_b67.ext E70
      have Zs := Nat.le_trans Zs E70.1
      have E_b70 := A70
      have F_states_b70 : Fld Z h70 b70 "com/example/processes_as_trees/processesastrees/StateTuple" "states" "[I" .null := D70 (Or.inr (hw _ (List.mem_of_getElem? (i := 20) rfl))) (ty := (.array .int)) (by decide)
      refine own_by (B := T70.setTop (mkF m 153 #[.val (.int i0), .val (.int i1), .val (.int i2), .val (.int i3), .val (.int i4), .val (.int (3 : Int32)), .val (.ref b55), .val (.ref b56), .val (.ref b57), .val (.int i3), .val (.int (0 : Int32)), .val (.int (own_fin (own_mix (own_mix (own_mix (3 : Int32) i1) i2) i3))), .unset, .unset] [(.ref b70)])) st70 ?_
      refine own_by (B := T70.setTop (mkF m 154 #[.val (.int i0), .val (.int i1), .val (.int i2), .val (.int i3), .val (.int i4), .val (.int (3 : Int32)), .val (.ref b55), .val (.ref b56), .val (.ref b57), .val (.int i3), .val (.int (0 : Int32)), .val (.int (own_fin (own_mix (own_mix (own_mix (3 : Int32) i1) i2) i3))), .unset, .unset] [(.ref b70), (.ref b70)])) (fun t k => XS.dup X70.here hx rfl (hb hby at_153) rfl rfl k) ?_
      refine own_by (B := T70.setTop (mkF m 156 #[.val (.int i0), .val (.int i1), .val (.int i2), .val (.int i3), .val (.int i4), .val (.int (3 : Int32)), .val (.ref b55), .val (.ref b56), .val (.ref b57), .val (.int i3), .val (.int (0 : Int32)), .val (.int (own_fin (own_mix (own_mix (own_mix (3 : Int32) i1) i2) i3))), .unset, .unset] [(.ref b56), (.ref b70), (.ref b70)])) (fun t k => XS.aload X70.here hx rfl (hb hby at_154) rfl rfl k) ?_
      obtain ⟨_, _, ⟨T71, L71, k71, n71⟩, -, X71, ⟨Lc71, hQ71, l71, y71, z71⟩, st71⟩ := X70.specialBack hx (y := (⟨"com/example/processes_as_trees/processesastrees/StateTuple", "<init>", "([I)V"⟩ : MethodName)) rfl hown (mvT hZ (hw _ (List.mem_of_getElem? (i := 8) rfl))) (mvT hZ (hw _ (List.mem_of_getElem? (i := 9) rfl))) (mvT hZ (hw _ (List.mem_of_getElem? (i := 10) rfl))) (by decide) (backOf (W := 1) (rmI l Z a0 hw [] b70 b56 h70 n0 Zs E_b70 F_states_b70 g_b70) hZ (hw _ (List.mem_of_getElem? (i := 10) rfl)) (hw _ (List.mem_of_getElem? (i := 7) rfl)) (by decide) (by decide)) (g := (mkF m 156 #[.val (.int i0), .val (.int i1), .val (.int i2), .val (.int i3), .val (.int i4), .val (.int (3 : Int32)), .val (.ref b55), .val (.ref b56), .val (.ref b57), .val (.int i3), .val (.int (0 : Int32)), .val (.int (own_fin (own_mix (own_mix (own_mix (3 : Int32) i1) i2) i3))), .unset, .unset] [(.ref b56), (.ref b70), (.ref b70)])) rfl (by rw [hml]; rfl) (Steps.refl _) (a := b70) (argsL := [(.ref b56)]) (rest := [(.ref b70)]) (lenOf own_pd2 rfl) rfl (by show 2 * 0 + _ ≤ _; exact Nat.le_of_eq rfl) (hb hby at_156) (fun _ _ => ⟨rfl, e70, (by decide : 5 + 0 ≤ _), (by decide : 11 + 0 ≤ _)⟩)
      dsimp only [Pt.U, Pt.locs, Pt.cells, Pt.slots] at X71 l71 y71 z71 st71 hQ71
      subst l71 y71 z71
      obtain ⟨rfl, Nq71, Kc71, Fc71⟩ := hQ71
      have Nf := Fr.app Nf Nq71
      have V_b55 := V_b55.keep Kc71 (ninS ne_b55_b70 nin0)
      have V_b56 := V_b56.keep Kc71 (ninS ne_b56_b70 nin0)
      have V_b57 := V_b57.keep Kc71 (ninS ne_b57_b70 nin0)
      have E_b67 := E_b67.keep Kc71
      have F_states_b67 := F_states_b67.keep Kc71 (ninS ne_b67_b70 nin0)
      have E_b70 := E_b70.keep Kc71
      have Zs := Nat.le_trans Zs Kc71.1
      have F_states_b70 := Fc71
      refine own_by (B := T71.setTop (mkF m 159 #[.val (.int i0), .val (.int i1), .val (.int i2), .val (.int i3), .val (.int i4), .val (.int (3 : Int32)), .val (.ref b55), .val (.ref b56), .val (.ref b57), .val (.int i3), .val (.int (0 : Int32)), .val (.int (own_fin (own_mix (own_mix (own_mix (3 : Int32) i1) i2) i3))), .unset, .unset] [(.ref b70)])) (fun t k => st71.trans k) ?_
      obtain ⟨cq72, kq72, q72a, q72b, q72c⟩ := isOf hZ rfl E_b70
      obtain ⟨_, _, ⟨T72, L72, k72, n72⟩, -, X72, ⟨Lc72, hQ72, l72, y72, z72⟩, st72⟩ := X71.virtualBack hx (y := (⟨"com/example/processes_as_trees/processesastrees/StateTuple", "hashCode", "()I"⟩ : MethodName)) (z := (⟨"com/example/processes_as_trees/processesastrees/StateTuple", "hashCode", "()I"⟩ : MethodName)) hown (mvT hZ (hw _ (List.mem_of_getElem? (i := 21) rfl))) (mvT hZ (hw _ (List.mem_of_getElem? (i := 22) rfl))) (notFace_of_selects (args := #[]) (mvT hZ (hw _ (List.mem_of_getElem? (i := 24) rfl)))) (mvT hZ (hw _ (List.mem_of_getElem? (i := 24) rfl))) (mvT hZ (hw _ (List.mem_of_getElem? (i := 23) rfl))) (by decide) (backOf (W := 0) (rmH3 l Z a0 hw [] b70 b56 f56 i1 i2 i3 T71.heap n0 Zs F_states_b70 V_b56 hf56_0 hf56_1 hf56_2) hZ (hw _ (List.mem_of_getElem? (i := 25) rfl)) (hw _ (List.mem_of_getElem? (i := 7) rfl)) (by decide) (by decide)) q72a q72c (g := (mkF m 159 #[.val (.int i0), .val (.int i1), .val (.int i2), .val (.int i3), .val (.int i4), .val (.int (3 : Int32)), .val (.ref b55), .val (.ref b56), .val (.ref b57), .val (.int i3), .val (.int (0 : Int32)), .val (.int (own_fin (own_mix (own_mix (own_mix (3 : Int32) i1) i2) i3))), .unset, .unset] [(.ref b70)])) rfl (by rw [hml]; rfl) (Steps.refl _) (argsL := []) (rest := []) (lenOf own_pd3 rfl) rfl (by show 2 * 0 + _ ≤ _; exact Nat.le_of_eq rfl) (hb hby at_159) (fun _ _ => ⟨rfl, rfl, (by decide : 5 + 0 ≤ _), (by decide : 11 + 0 ≤ _)⟩)
      dsimp only [Pt.U, Pt.locs, Pt.cells, Pt.slots] at X72 l72 y72 z72 st72 hQ72
      subst l72 y72 z72
      obtain ⟨rfl, Nq72, hp72⟩ := hQ72
      have Nf := Fr.app Nf Nq72
      have ec72 : T72.heap = T71.heap := hp72
      refine own_by (B := T72.setTop (mkF m 162 #[.val (.int i0), .val (.int i1), .val (.int i2), .val (.int i3), .val (.int i4), .val (.int (3 : Int32)), .val (.ref b55), .val (.ref b56), .val (.ref b57), .val (.int i3), .val (.int (0 : Int32)), .val (.int (own_fin (own_mix (own_mix (own_mix (3 : Int32) i1) i2) i3))), .unset, .unset] [(.int (own_fin (own_mix (own_mix (own_mix (3 : Int32) i1) i2) i3)))])) (fun t k => st72.trans k) ?_
      refine own_by (B := T72.setTop (mkF m 164 #[.val (.int i0), .val (.int i1), .val (.int i2), .val (.int i3), .val (.int i4), .val (.int (3 : Int32)), .val (.ref b55), .val (.ref b56), .val (.ref b57), .val (.int i3), .val (.int (0 : Int32)), .val (.int (own_fin (own_mix (own_mix (own_mix (3 : Int32) i1) i2) i3))), .val (.int (own_fin (own_mix (own_mix (own_mix (3 : Int32) i1) i2) i3))), .unset] [])) (fun t k => XS.istore X72.here hx rfl (hb hby at_162) rfl (l' := #[.val (.int i0), .val (.int i1), .val (.int i2), .val (.int i3), .val (.int i4), .val (.int (3 : Int32)), .val (.ref b55), .val (.ref b56), .val (.ref b57), .val (.int i3), .val (.int (0 : Int32)), .val (.int (own_fin (own_mix (own_mix (own_mix (3 : Int32) i1) i2) i3))), .val (.int (own_fin (own_mix (own_mix (own_mix (3 : Int32) i1) i2) i3))), .unset]) rfl k) ?_
      obtain ⟨T73, h73, X73, e73, E73, A73, D73, -, st73⟩ := newO X72 hx hZ hown (hw _ (List.mem_of_getElem? (i := 5) rfl)) (hw _ (List.mem_of_getElem? (i := 6) rfl)) (hw _ (List.mem_of_getElem? (i := 7) rfl)) ec72 (g := (mkF m 164 #[.val (.int i0), .val (.int i1), .val (.int i2), .val (.int i3), .val (.int i4), .val (.int (3 : Int32)), .val (.ref b55), .val (.ref b56), .val (.ref b57), .val (.int i3), .val (.int (0 : Int32)), .val (.int (own_fin (own_mix (own_mix (own_mix (3 : Int32) i1) i2) i3))), .val (.int (own_fin (own_mix (own_mix (own_mix (3 : Int32) i1) i2) i3))), .unset] [])) rfl (hb hby at_164) (by decide) (by decide)
      obtain ⟨b73, gq73⟩ : ∃ z, z = T71.heap.size := ⟨_, rfl⟩
      rw [← gq73] at A73 D73 st73
      have ne_b55_b73 : b55 ≠ b73 := Nat.ne_of_lt (Nat.lt_of_lt_of_le V_b55.lt (Nat.le_of_eq gq73.symm))
      have ne_b56_b73 : b56 ≠ b73 := Nat.ne_of_lt (Nat.lt_of_lt_of_le V_b56.lt (Nat.le_of_eq gq73.symm))
      have ne_b57_b73 : b57 ≠ b73 := Nat.ne_of_lt (Nat.lt_of_lt_of_le V_b57.lt (Nat.le_of_eq gq73.symm))
      have ne_b67_b73 : b67 ≠ b73 := Nat.ne_of_lt (Nat.lt_of_lt_of_le E_b67.lt (Nat.le_of_eq gq73.symm))
      have ne_b70_b73 : b70 ≠ b73 := Nat.ne_of_lt (Nat.lt_of_lt_of_le E_b70.lt (Nat.le_of_eq gq73.symm))
      have g_b73 : n0 ≤ b73 := Nat.le_trans Zs (Nat.le_of_eq gq73.symm)
      have V_b55 := V_b55.ext E73
      have V_b56 := V_b56.ext E73
      have V_b57 := V_b57.ext E73
      have E_b67 := E_b67.ext E73
      have F_states_b67 := F_states_b67.ext E73
      have E_b70 := E_b70.ext E73
      have F_states_b70 := F_states_b70.ext E73
      have Zs := Nat.le_trans Zs E73.1
      have E_b73 := A73
      have F_states_b73 : Fld Z h73 b73 "com/example/processes_as_trees/processesastrees/StateTuple" "states" "[I" .null := D73 (Or.inr (hw _ (List.mem_of_getElem? (i := 20) rfl))) (ty := (.array .int)) (by decide)
      refine own_by (B := T73.setTop (mkF m 167 #[.val (.int i0), .val (.int i1), .val (.int i2), .val (.int i3), .val (.int i4), .val (.int (3 : Int32)), .val (.ref b55), .val (.ref b56), .val (.ref b57), .val (.int i3), .val (.int (0 : Int32)), .val (.int (own_fin (own_mix (own_mix (own_mix (3 : Int32) i1) i2) i3))), .val (.int (own_fin (own_mix (own_mix (own_mix (3 : Int32) i1) i2) i3))), .unset] [(.ref b73)])) st73 ?_
      refine own_by (B := T73.setTop (mkF m 168 #[.val (.int i0), .val (.int i1), .val (.int i2), .val (.int i3), .val (.int i4), .val (.int (3 : Int32)), .val (.ref b55), .val (.ref b56), .val (.ref b57), .val (.int i3), .val (.int (0 : Int32)), .val (.int (own_fin (own_mix (own_mix (own_mix (3 : Int32) i1) i2) i3))), .val (.int (own_fin (own_mix (own_mix (own_mix (3 : Int32) i1) i2) i3))), .unset] [(.ref b73), (.ref b73)])) (fun t k => XS.dup X73.here hx rfl (hb hby at_167) rfl rfl k) ?_
      refine own_by (B := T73.setTop (mkF m 170 #[.val (.int i0), .val (.int i1), .val (.int i2), .val (.int i3), .val (.int i4), .val (.int (3 : Int32)), .val (.ref b55), .val (.ref b56), .val (.ref b57), .val (.int i3), .val (.int (0 : Int32)), .val (.int (own_fin (own_mix (own_mix (own_mix (3 : Int32) i1) i2) i3))), .val (.int (own_fin (own_mix (own_mix (own_mix (3 : Int32) i1) i2) i3))), .unset] [(.ref b57), (.ref b73), (.ref b73)])) (fun t k => XS.aload X73.here hx rfl (hb hby at_168) rfl rfl k) ?_
      obtain ⟨_, _, ⟨T74, L74, k74, n74⟩, -, X74, ⟨Lc74, hQ74, l74, y74, z74⟩, st74⟩ := X73.specialBack hx (y := (⟨"com/example/processes_as_trees/processesastrees/StateTuple", "<init>", "([I)V"⟩ : MethodName)) rfl hown (mvT hZ (hw _ (List.mem_of_getElem? (i := 8) rfl))) (mvT hZ (hw _ (List.mem_of_getElem? (i := 9) rfl))) (mvT hZ (hw _ (List.mem_of_getElem? (i := 10) rfl))) (by decide) (backOf (W := 1) (rmI l Z a0 hw [] b73 b57 h73 n0 Zs E_b73 F_states_b73 g_b73) hZ (hw _ (List.mem_of_getElem? (i := 10) rfl)) (hw _ (List.mem_of_getElem? (i := 7) rfl)) (by decide) (by decide)) (g := (mkF m 170 #[.val (.int i0), .val (.int i1), .val (.int i2), .val (.int i3), .val (.int i4), .val (.int (3 : Int32)), .val (.ref b55), .val (.ref b56), .val (.ref b57), .val (.int i3), .val (.int (0 : Int32)), .val (.int (own_fin (own_mix (own_mix (own_mix (3 : Int32) i1) i2) i3))), .val (.int (own_fin (own_mix (own_mix (own_mix (3 : Int32) i1) i2) i3))), .unset] [(.ref b57), (.ref b73), (.ref b73)])) rfl (by rw [hml]; rfl) (Steps.refl _) (a := b73) (argsL := [(.ref b57)]) (rest := [(.ref b73)]) (lenOf own_pd2 rfl) rfl (by show 2 * 0 + _ ≤ _; exact Nat.le_of_eq rfl) (hb hby at_170) (fun _ _ => ⟨rfl, e73, (by decide : 6 + 0 ≤ _), (by decide : 12 + 0 ≤ _)⟩)
      dsimp only [Pt.U, Pt.locs, Pt.cells, Pt.slots] at X74 l74 y74 z74 st74 hQ74
      subst l74 y74 z74
      obtain ⟨rfl, Nq74, Kc74, Fc74⟩ := hQ74
      have Nf := Fr.app Nf Nq74
      have V_b55 := V_b55.keep Kc74 (ninS ne_b55_b73 nin0)
      have V_b56 := V_b56.keep Kc74 (ninS ne_b56_b73 nin0)
      have V_b57 := V_b57.keep Kc74 (ninS ne_b57_b73 nin0)
      have E_b67 := E_b67.keep Kc74
      have F_states_b67 := F_states_b67.keep Kc74 (ninS ne_b67_b73 nin0)
      have E_b70 := E_b70.keep Kc74
      have F_states_b70 := F_states_b70.keep Kc74 (ninS ne_b70_b73 nin0)
      have E_b73 := E_b73.keep Kc74
      have Zs := Nat.le_trans Zs Kc74.1
      have F_states_b73 := Fc74
      refine own_by (B := T74.setTop (mkF m 173 #[.val (.int i0), .val (.int i1), .val (.int i2), .val (.int i3), .val (.int i4), .val (.int (3 : Int32)), .val (.ref b55), .val (.ref b56), .val (.ref b57), .val (.int i3), .val (.int (0 : Int32)), .val (.int (own_fin (own_mix (own_mix (own_mix (3 : Int32) i1) i2) i3))), .val (.int (own_fin (own_mix (own_mix (own_mix (3 : Int32) i1) i2) i3))), .unset] [(.ref b73)])) (fun t k => st74.trans k) ?_
      obtain ⟨cq75, kq75, q75a, q75b, q75c⟩ := isOf hZ rfl E_b73
      obtain ⟨_, _, ⟨T75, L75, k75, n75⟩, -, X75, ⟨Lc75, hQ75, l75, y75, z75⟩, st75⟩ := X74.virtualBack hx (y := (⟨"com/example/processes_as_trees/processesastrees/StateTuple", "hashCode", "()I"⟩ : MethodName)) (z := (⟨"com/example/processes_as_trees/processesastrees/StateTuple", "hashCode", "()I"⟩ : MethodName)) hown (mvT hZ (hw _ (List.mem_of_getElem? (i := 21) rfl))) (mvT hZ (hw _ (List.mem_of_getElem? (i := 22) rfl))) (notFace_of_selects (args := #[]) (mvT hZ (hw _ (List.mem_of_getElem? (i := 24) rfl)))) (mvT hZ (hw _ (List.mem_of_getElem? (i := 24) rfl))) (mvT hZ (hw _ (List.mem_of_getElem? (i := 23) rfl))) (by decide) (backOf (W := 0) (rmH3 l Z a0 hw [] b73 b57 f57 i1 i2 i4 T74.heap n0 Zs F_states_b73 V_b57 hf57_0 hf57_1 hf57_2) hZ (hw _ (List.mem_of_getElem? (i := 25) rfl)) (hw _ (List.mem_of_getElem? (i := 7) rfl)) (by decide) (by decide)) q75a q75c (g := (mkF m 173 #[.val (.int i0), .val (.int i1), .val (.int i2), .val (.int i3), .val (.int i4), .val (.int (3 : Int32)), .val (.ref b55), .val (.ref b56), .val (.ref b57), .val (.int i3), .val (.int (0 : Int32)), .val (.int (own_fin (own_mix (own_mix (own_mix (3 : Int32) i1) i2) i3))), .val (.int (own_fin (own_mix (own_mix (own_mix (3 : Int32) i1) i2) i3))), .unset] [(.ref b73)])) rfl (by rw [hml]; rfl) (Steps.refl _) (argsL := []) (rest := []) (lenOf own_pd3 rfl) rfl (by show 2 * 0 + _ ≤ _; exact Nat.le_of_eq rfl) (hb hby at_173) (fun _ _ => ⟨rfl, rfl, (by decide : 6 + 0 ≤ _), (by decide : 12 + 0 ≤ _)⟩)
      dsimp only [Pt.U, Pt.locs, Pt.cells, Pt.slots] at X75 l75 y75 z75 st75 hQ75
      subst l75 y75 z75
      obtain ⟨rfl, Nq75, hp75⟩ := hQ75
      have Nf := Fr.app Nf Nq75
      have ec75 : T75.heap = T74.heap := hp75
      refine own_by (B := T75.setTop (mkF m 176 #[.val (.int i0), .val (.int i1), .val (.int i2), .val (.int i3), .val (.int i4), .val (.int (3 : Int32)), .val (.ref b55), .val (.ref b56), .val (.ref b57), .val (.int i3), .val (.int (0 : Int32)), .val (.int (own_fin (own_mix (own_mix (own_mix (3 : Int32) i1) i2) i3))), .val (.int (own_fin (own_mix (own_mix (own_mix (3 : Int32) i1) i2) i3))), .unset] [(.int (own_fin (own_mix (own_mix (own_mix (3 : Int32) i1) i2) i4)))])) (fun t k => st75.trans k) ?_
      refine own_by (B := T75.setTop (mkF m 178 #[.val (.int i0), .val (.int i1), .val (.int i2), .val (.int i3), .val (.int i4), .val (.int (3 : Int32)), .val (.ref b55), .val (.ref b56), .val (.ref b57), .val (.int i3), .val (.int (0 : Int32)), .val (.int (own_fin (own_mix (own_mix (own_mix (3 : Int32) i1) i2) i3))), .val (.int (own_fin (own_mix (own_mix (own_mix (3 : Int32) i1) i2) i3))), .val (.int (own_fin (own_mix (own_mix (own_mix (3 : Int32) i1) i2) i4)))] [])) (fun t k => XS.istore X75.here hx rfl (hb hby at_176) rfl (l' := #[.val (.int i0), .val (.int i1), .val (.int i2), .val (.int i3), .val (.int i4), .val (.int (3 : Int32)), .val (.ref b55), .val (.ref b56), .val (.ref b57), .val (.int i3), .val (.int (0 : Int32)), .val (.int (own_fin (own_mix (own_mix (own_mix (3 : Int32) i1) i2) i3))), .val (.int (own_fin (own_mix (own_mix (own_mix (3 : Int32) i1) i2) i3))), .val (.int (own_fin (own_mix (own_mix (own_mix (3 : Int32) i1) i2) i4)))]) rfl k) ?_
      refine own_by (B := T75.setTop (mkF m 180 #[.val (.int i0), .val (.int i1), .val (.int i2), .val (.int i3), .val (.int i4), .val (.int (3 : Int32)), .val (.ref b55), .val (.ref b56), .val (.ref b57), .val (.int i3), .val (.int (0 : Int32)), .val (.int (own_fin (own_mix (own_mix (own_mix (3 : Int32) i1) i2) i3))), .val (.int (own_fin (own_mix (own_mix (own_mix (3 : Int32) i1) i2) i3))), .val (.int (own_fin (own_mix (own_mix (own_mix (3 : Int32) i1) i2) i4)))] [(.int (own_fin (own_mix (own_mix (own_mix (3 : Int32) i1) i2) i3)))])) (fun t k => XS.iload X75.here hx rfl (hb hby at_178) rfl k) ?_
      refine own_by (B := T75.setTop (mkF m 182 #[.val (.int i0), .val (.int i1), .val (.int i2), .val (.int i3), .val (.int i4), .val (.int (3 : Int32)), .val (.ref b55), .val (.ref b56), .val (.ref b57), .val (.int i3), .val (.int (0 : Int32)), .val (.int (own_fin (own_mix (own_mix (own_mix (3 : Int32) i1) i2) i3))), .val (.int (own_fin (own_mix (own_mix (own_mix (3 : Int32) i1) i2) i3))), .val (.int (own_fin (own_mix (own_mix (own_mix (3 : Int32) i1) i2) i4)))] [(.int (own_fin (own_mix (own_mix (own_mix (3 : Int32) i1) i2) i3))), (.int (own_fin (own_mix (own_mix (own_mix (3 : Int32) i1) i2) i3)))])) (fun t k => XS.iload X75.here hx rfl (hb hby at_180) rfl k) ?_
      refine own_by (B := T75.setTop (mkF m 185 #[.val (.int i0), .val (.int i1), .val (.int i2), .val (.int i3), .val (.int i4), .val (.int (3 : Int32)), .val (.ref b55), .val (.ref b56), .val (.ref b57), .val (.int i3), .val (.int (0 : Int32)), .val (.int (own_fin (own_mix (own_mix (own_mix (3 : Int32) i1) i2) i3))), .val (.int (own_fin (own_mix (own_mix (own_mix (3 : Int32) i1) i2) i3))), .val (.int (own_fin (own_mix (own_mix (own_mix (3 : Int32) i1) i2) i4)))] [])) (fun t k => XS.icmpNo X75.here hx rfl (hb hby at_182) rfl (teq rfl).2 k) ?_
      refine own_by (B := T75.setTop (mkF m 187 #[.val (.int i0), .val (.int i1), .val (.int i2), .val (.int i3), .val (.int i4), .val (.int (3 : Int32)), .val (.ref b55), .val (.ref b56), .val (.ref b57), .val (.int i3), .val (.int (0 : Int32)), .val (.int (own_fin (own_mix (own_mix (own_mix (3 : Int32) i1) i2) i3))), .val (.int (own_fin (own_mix (own_mix (own_mix (3 : Int32) i1) i2) i3))), .val (.int (own_fin (own_mix (own_mix (own_mix (3 : Int32) i1) i2) i4)))] [(.int (own_fin (own_mix (own_mix (own_mix (3 : Int32) i1) i2) i3)))])) (fun t k => XS.iload X75.here hx rfl (hb hby at_185) rfl k) ?_
      refine own_by (B := T75.setTop (mkF m 189 #[.val (.int i0), .val (.int i1), .val (.int i2), .val (.int i3), .val (.int i4), .val (.int (3 : Int32)), .val (.ref b55), .val (.ref b56), .val (.ref b57), .val (.int i3), .val (.int (0 : Int32)), .val (.int (own_fin (own_mix (own_mix (own_mix (3 : Int32) i1) i2) i3))), .val (.int (own_fin (own_mix (own_mix (own_mix (3 : Int32) i1) i2) i3))), .val (.int (own_fin (own_mix (own_mix (own_mix (3 : Int32) i1) i2) i4)))] [(.int (own_fin (own_mix (own_mix (own_mix (3 : Int32) i1) i2) i4))), (.int (own_fin (own_mix (own_mix (own_mix (3 : Int32) i1) i2) i3)))])) (fun t k => XS.iload X75.here hx rfl (hb hby at_187) rfl k) ?_
      refine own_by (B := T75.setTop (mkF m 196 #[.val (.int i0), .val (.int i1), .val (.int i2), .val (.int i3), .val (.int i4), .val (.int (3 : Int32)), .val (.ref b55), .val (.ref b56), .val (.ref b57), .val (.int i3), .val (.int (0 : Int32)), .val (.int (own_fin (own_mix (own_mix (own_mix (3 : Int32) i1) i2) i3))), .val (.int (own_fin (own_mix (own_mix (own_mix (3 : Int32) i1) i2) i3))), .val (.int (own_fin (own_mix (own_mix (own_mix (3 : Int32) i1) i2) i4)))] [])) (fun t k => XS.icmpYes X75.here hx rfl (pc0 := 189) (pc' := 196) rfl (hb hby at_189) rfl (feq (fun q => hc126 (own_mix_inj (own_fin_inj q)))).2 (by decide) (by decide) k) ?_
      refine own_by (B := T75.setTop (mkF m 197 #[.val (.int i0), .val (.int i1), .val (.int i2), .val (.int i3), .val (.int i4), .val (.int (3 : Int32)), .val (.ref b55), .val (.ref b56), .val (.ref b57), .val (.int i3), .val (.int (0 : Int32)), .val (.int (own_fin (own_mix (own_mix (own_mix (3 : Int32) i1) i2) i3))), .val (.int (own_fin (own_mix (own_mix (own_mix (3 : Int32) i1) i2) i3))), .val (.int (own_fin (own_mix (own_mix (own_mix (3 : Int32) i1) i2) i4)))] [(.int (0 : Int32))])) (fun t k => XS.iconst X75.here hx rfl (hb hby at_196) k) ?_
      refine own_by (B := T75.setTop (mkF m 199 #[.val (.int i0), .val (.int i1), .val (.int i2), .val (.int i3), .val (.int i4), .val (.int (3 : Int32)), .val (.ref b55), .val (.ref b56), .val (.ref b57), .val (.int i3), .val (.int (0 : Int32)), .val (.int (own_fin (own_mix (own_mix (own_mix (3 : Int32) i1) i2) i3))), .val (.int (own_fin (own_mix (own_mix (own_mix (3 : Int32) i1) i2) i3))), .val (.int (own_fin (own_mix (own_mix (own_mix (3 : Int32) i1) i2) i4)))] [(.int (0 : Int32)), (.int (0 : Int32))])) (fun t k => XS.iload X75.here hx rfl (hb hby at_197) rfl k) ?_
      refine own_by (B := T75.setTop (mkF m 202 #[.val (.int i0), .val (.int i1), .val (.int i2), .val (.int i3), .val (.int i4), .val (.int (3 : Int32)), .val (.ref b55), .val (.ref b56), .val (.ref b57), .val (.int i3), .val (.int (0 : Int32)), .val (.int (own_fin (own_mix (own_mix (own_mix (3 : Int32) i1) i2) i3))), .val (.int (own_fin (own_mix (own_mix (own_mix (3 : Int32) i1) i2) i3))), .val (.int (own_fin (own_mix (own_mix (own_mix (3 : Int32) i1) i2) i4)))] [])) (fun t k => XS.icmpNo X75.here hx rfl (hb hby at_199) rfl (teq (by decide)).2 k) ?_
      refine own_by (B := T75.setTop (mkF m 203 #[.val (.int i0), .val (.int i1), .val (.int i2), .val (.int i3), .val (.int i4), .val (.int (3 : Int32)), .val (.ref b55), .val (.ref b56), .val (.ref b57), .val (.int i3), .val (.int (0 : Int32)), .val (.int (own_fin (own_mix (own_mix (own_mix (3 : Int32) i1) i2) i3))), .val (.int (own_fin (own_mix (own_mix (own_mix (3 : Int32) i1) i2) i3))), .val (.int (own_fin (own_mix (own_mix (own_mix (3 : Int32) i1) i2) i4)))] [(.int (1 : Int32))])) (fun t k => XS.iconst X75.here hx rfl (hb hby at_202) k) ?_
      refine own_by (B := T75.setTop (mkF m 207 #[.val (.int i0), .val (.int i1), .val (.int i2), .val (.int i3), .val (.int i4), .val (.int (3 : Int32)), .val (.ref b55), .val (.ref b56), .val (.ref b57), .val (.int i3), .val (.int (0 : Int32)), .val (.int (own_fin (own_mix (own_mix (own_mix (3 : Int32) i1) i2) i3))), .val (.int (own_fin (own_mix (own_mix (own_mix (3 : Int32) i1) i2) i3))), .val (.int (own_fin (own_mix (own_mix (own_mix (3 : Int32) i1) i2) i4)))] [(.int (1 : Int32))])) (fun t k => XS.goto X75.here hx rfl (pc0 := 203) (pc' := 207) rfl (hb hby at_203) (by decide) (by decide) k) ?_
      exact own_end X75 (v := some (.int (1 : Int32))) (fun h => by rw [Bd.returns] at h; cases h) (BodyLoose.notSynchronized Bd) (Q := (Q_rm0 Z i0 i1 i2 i3 i4 h0 n0)) (fun fs hr => retN X75 hx (t := .boolean) Bd.returns (by simp) (hb hby at_207) hr) (show (Q_rm0 Z i0 i1 i2 i3 i4 h0 n0) _ T75.heap _ from (by rw [ec75]; exact ⟨rfl, Nf⟩)) (by decide) (by decide)
set_option maxRecDepth 65536 in
set_option maxHeartbeats 40000000 in
theorem comes_1 {Post : Tables → Env → Array Value → State → Outcome → State → Prop} (hpost : ∀ tb e args s v u, (limb_1_1.after args s (.returned v) u = true ∧ limb_1_2.after args s (.returned v) u = true ∧ True) → FrameEnd s (.returned v) u (Jvm.fieldLocs frame_1_writes args s ++ Jvm.arrayLocs frame_1_arrays args s ++ Jvm.staticLocs frame_1_statics s) 24 128 → Post tb e args s (.returned v) u) :
    ArmFor flags0 classFile x code maxLocals ret World_1 tables_1 room_1 Calls_1 rest_1 Pre_1 Post := by
  intro l hfl _ _ p e ha hc hk s m args below hf hA hF happ hP
  obtain ⟨hcalls, hrest, hpre⟩ := hP
  obtain ⟨-, -, -, hnamed, -, -, -, hat⟩ := (Spec.applies_iff hf).mp happ
  obtain ⟨hg, hn⟩ := and_e (Cond.before_iff.mp (show (Jvm.Cond.and given_1 narrow_1).before args s = true from hpre))
  obtain ⟨hcount, hg0⟩ := and_e hg
  obtain ⟨hv0, hg1⟩ := and_e hg0
  obtain ⟨hv1, hg2⟩ := and_e hg1
  obtain ⟨hv2, hg3⟩ := and_e hg2
  obtain ⟨hv3, hg4⟩ := and_e hg3
  have hv4 := hg4
  obtain ⟨w0, w1, w2, w3, w4, rfl⟩ : ∃ w0 w1 w2 w3 w4 : Value, args = #[w0, w1, w2, w3, w4] := by
    have hs : args.size = 5 := by simpa [Cond.value, given_1] using hcount
    obtain ⟨L⟩ := args
    match L, hs with
    | [w0, w1, w2, w3, w4], _ => exact ⟨w0, w1, w2, w3, w4, rfl⟩
  have hw := fun d (hd : d ∈ tables_1) => atoms_spec (ws := Jvm.Cond.code x code maxLocals ret :: tables_1) hat d (List.mem_cons_of_mem _ hd)
  have hfit : Fit s := fun {y c} hc i hi => by
    obtain ⟨ha, rfl⟩ := Array.getElem?_eq_some_iff.mp hc
    have q := List.all_eq_true.mp ((Array.all_eq_true_iff_forall_mem.mp hF) _ (Array.getElem_mem ha)) i (List.mem_range.mpr hi)
    simpa [Array.getElem?_eq_getElem hi] using q
  obtain ⟨i0, ei0⟩ := is_v hv0
  obtain rfl : w0 = (.int i0) := Option.some.inj ei0
  obtain ⟨i1, ei1⟩ := is_v hv1
  obtain rfl : w1 = (.int i1) := Option.some.inj ei1
  obtain ⟨i2, ei2⟩ := is_v hv2
  obtain rfl : w2 = (.int i2) := Option.some.inj ei2
  obtain ⟨i3, ei3⟩ := is_v hv3
  obtain rfl : w3 = (.int i3) := Option.some.inj ei3
  obtain ⟨i4, ei4⟩ := is_v hv4
  obtain rfl : w4 = (.int i4) := Option.some.inj ei4
  obtain ⟨n, o, h1, h2, h3, _, L, rfl, ⟨rfl, N⟩, hq⟩ := rm0 l s _ hw tables_1 i0 i1 i2 i3 i4 s.heap s.heap.size (Nat.le_refl _)  p e ha hc hk s m _ below hf ((Spec.applies_iff_loose hf).mp happ).1 ⟨rfl, State.Warmed39.refl s, rfl⟩ trivial
  refine ⟨n, _, h1, h2, h3, hpost _ _ _ _ _ _ ⟨Cond.after_iff.mpr rfl, Cond.after_iff.mpr (eq_i res_at (Term.int_eval (1)) rfl), trivial⟩ ⟨hq.1, hq.2.1, (hq.2.2.sift fun y hy => Or.inr (N y hy)).mono (by decide) (by decide)⟩⟩
theorem main_1_1 : Claimed_1_1 := comes_1 fun _ _ _ _ _ _ h hF => ⟨h.1, hF⟩
theorem main_1_2 : Claimed_1_2 := comes_1 fun _ _ _ _ _ _ h hF => ⟨h.2.1, hF⟩
end Jvm.Pilot.@@N@@
namespace Jvm.Pilot.@@N@@
open Jvm Jvm.ClassFile Sem Op Lib Jvm.Free Jvm.Stand Jvm.Pilot.@@N@@.Jvm.D
/-! MADE BY PROGRAM (witnessworld.py) out of the Statement's table words and the real class files: 10 classes; the members and pool entries that the words name. The judged class is class 1, her method 2. -/
namespace start1
open Jvm.ClassFile
def u (s : String) : CpInfo := .utf8 (stringToUtf16 s)
/-- a pool by its gaps: so many unusable entries, then the entry; so many at the end -/
def gap : Nat → List CpInfo → List CpInfo
  | 0, r => r
  | n + 1, r => .unusable :: gap n r
def poolList (es : List (Nat × CpInfo)) (last : Nat) : List CpInfo := es.foldr (fun e r => gap e.1 (e.2 :: r)) (gap last [])
def pool (es : List (Nat × CpInfo)) (last : Nat) : Array CpInfo := ⟨poolList es last⟩
def fileOf (pool : Array CpInfo) (this : Nat) (attrs : Array Attribute := #[]) (ms : Array MethodInfo := #[]) (fl : Nat := 33) (sup : Nat := 0) (ifs : Array Nat := #[]) (fds : Array FieldInfo := #[]) : ClassFile where
  minorVersion := 0
  majorVersion := 65
  constantPool := pool
  accessFlags := fl
  thisClass := this
  superClass := sup
  interfaces := ifs
  fields := fds
  methods := ms
  attributes := attrs
def plain (name : String) (sup : Option ClassId) : Class where
  name := name
  kind := .ordinary
  loader := none
  accessFlags := 33
  super := sup
  interfaces := #[]
  cf := none
  fields := #[]
  methods := #[]
  instanceTypes := #[]
  staticTypes := #[]
  resolved := #[]
  callSites := []
  init := .initialized
  statics := none
  mirror := none

def pool0 : Array CpInfo := pool [(5, u "<init>"), (0, u "()V"), (1, .class_ 10), (1, u "java/lang/Object")] 113

def k0c0 : Code := { maxStack := 0, maxLocals := 1, code := object_method_1_code, exceptionTable := #[], attributes := #[] }
def k0m0 : Method := { name := "<init>", desc := "()V", sig := { parameters := [], returnType := none }, accessFlags := 1, code := some k0c0 }
/-- java/lang/Object -/
def k0 : Class := { plain "java/lang/Object" none with
  accessFlags := 33
  interfaces := #[]
  cf := some (fileOf pool0 8 #[] #[{ accessFlags := 1, nameIndex := 5, descriptorIndex := 6, attributes := #[] }] 33 0 #[] #[])
  fields := #[]
  methods := #[k0m0]
  instanceTypes := #[]
  staticTypes := #[]
  resolved := Array.replicate 124 none
  statics := none }

def pool1 : Array CpInfo := pool [(2, .class_ 4), (1, u "java/lang/Object"), (0, u "<init>"), (0, u "()V"), (0, .methodref 8 9), (0, .class_ 10), (0, .nameAndType 11 12), (0, u "com/example/processes_as_trees/processesastrees/StateTupleHashCodePinLaw"), (0, u "make"), (0, u "(IIII)[I"), (0, .class_ 14), (0, u "com/example/processes_as_trees/processesastrees/StateTuple"), (0, .methodref 13 16), (0, .nameAndType 5 17), (0, u "([I)V"), (0, .methodref 13 19), (0, .nameAndType 20 21), (0, u "hashCode"), (0, u "()I"), (3, u "law"), (0, u "(IIIII)Z")] 4

def k1m0 : Method := { name := "<init>", desc := "()V", sig := { parameters := [], returnType := none }, accessFlags := 2, code := none }
def k1c1 : Code := { maxStack := 4, maxLocals := 4, code := method_2_code, exceptionTable := #[], attributes := #[] }
def k1m1 : Method := { name := "make", desc := "(IIII)[I", sig := { parameters := [.int, .int, .int, .int], returnType := some (.array .int) }, accessFlags := 10, code := some k1c1 }
def k1c2 : Code := { maxStack := 4, maxLocals := 14, code := code, exceptionTable := #[], attributes := #[] }
def k1m2 : Method := { name := "law", desc := "(IIIII)Z", sig := { parameters := [.int, .int, .int, .int, .int], returnType := some .boolean }, accessFlags := 9, code := some k1c2 }
/-- com/example/processes_as_trees/processesastrees/StateTupleHashCodePinLaw -/
def k1 : Class := { plain "com/example/processes_as_trees/processesastrees/StateTupleHashCodePinLaw" (some 0) with
  accessFlags := 49
  interfaces := #[]
  cf := some (fileOf pool1 8 #[] #[{ accessFlags := 2, nameIndex := 5, descriptorIndex := 6, attributes := #[] }, { accessFlags := 10, nameIndex := 11, descriptorIndex := 12, attributes := #[] }, { accessFlags := 9, nameIndex := 25, descriptorIndex := 26, attributes := #[] }] 49 2 #[] #[])
  fields := #[]
  methods := #[k1m0, k1m1, k1m2]
  instanceTypes := #[]
  staticTypes := #[]
  resolved := Array.replicate 31 none
  statics := none }

def pool2 : Array CpInfo := pool [(1, .methodref 2 3), (0, .class_ 4), (0, .nameAndType 5 6), (0, u "java/lang/Object"), (0, u "<init>"), (0, u "()V"), (0, .class_ 8), (0, u "java/lang/Record")] 13

def k2c0 : Code := { maxStack := 1, maxLocals := 1, code := jdk_30_method_1_code, exceptionTable := #[], attributes := #[] }
def k2m0 : Method := { name := "<init>", desc := "()V", sig := { parameters := [], returnType := none }, accessFlags := 4, code := some k2c0 }
/-- java/lang/Record -/
def k2 : Class := { plain "java/lang/Record" (some 0) with
  accessFlags := 1057
  interfaces := #[]
  cf := some (fileOf pool2 7 #[] #[{ accessFlags := 4, nameIndex := 5, descriptorIndex := 6, attributes := #[] }] 1057 2 #[] #[])
  fields := #[]
  methods := #[k2m0]
  instanceTypes := #[]
  staticTypes := #[]
  resolved := Array.replicate 22 none
  statics := none }

def pool3 : Array CpInfo := pool [(1, .methodref 2 3), (0, .class_ 4), (0, .nameAndType 5 6), (0, u "java/lang/Record"), (0, u "<init>"), (0, u "()V"), (0, .fieldref 8 9), (0, .class_ 10), (0, .nameAndType 11 12), (0, u "com/example/processes_as_trees/processesastrees/StateTuple"), (0, u "states"), (0, u "[I"), (6, .integer 2654435769), (4, u "SPREAD"), (0, u "I"), (1, u "([I)V"), (5, u "hashCode"), (0, u "()I")] 6

def k3c0 : Code := { maxStack := 2, maxLocals := 2, code := prog_52_method_1_code, exceptionTable := #[], attributes := #[] }
def k3m0 : Method := { name := "<init>", desc := "([I)V", sig := { parameters := [(.array .int)], returnType := none }, accessFlags := 0, code := some k3c0 }
def k3c1 : Code := { maxStack := 3, maxLocals := 6, code := prog_52_method_3_code, exceptionTable := #[], attributes := #[] }
def k3m1 : Method := { name := "hashCode", desc := "()I", sig := { parameters := [], returnType := some .int }, accessFlags := 1, code := some k3c1 }
/-- com/example/processes_as_trees/processesastrees/StateTuple -/
def k3 : Class := { plain "com/example/processes_as_trees/processesastrees/StateTuple" (some 2) with
  accessFlags := 48
  interfaces := #[]
  cf := some (fileOf pool3 8 #[] #[{ accessFlags := 0, nameIndex := 5, descriptorIndex := 27, attributes := #[] }, { accessFlags := 1, nameIndex := 33, descriptorIndex := 34, attributes := #[] }] 48 2 #[] #[{ accessFlags := 18, nameIndex := 11, descriptorIndex := 12, attributes := #[] }, { accessFlags := 26, nameIndex := 24, descriptorIndex := 25, attributes := #[] }])
  fields := #[{ name := "states", type := (.array .int), accessFlags := 18, slot := 0, constantValue := 0 }, { name := "SPREAD", type := .int, accessFlags := 26, slot := 0, constantValue := 0 }]
  methods := #[k3m0, k3m1]
  instanceTypes := #[(.array .int)]
  staticTypes := #[.int]
  resolved := Array.replicate 41 none
  statics := none }

def pool4 : Array CpInfo := pool [(1, u "java/lang/Cloneable"), (0, .class_ 1), (0, u "java/lang/Object"), (0, .class_ 3)] 3

/-- java/lang/Cloneable -/
def k4 : Class := { plain "java/lang/Cloneable" (some 0) with
  accessFlags := 1537
  interfaces := #[]
  cf := some (fileOf pool4 2 #[] #[] 1537 4 #[] #[])
  fields := #[]
  methods := #[]
  instanceTypes := #[]
  staticTypes := #[]
  resolved := Array.replicate 8 none
  statics := none }

def pool5 : Array CpInfo := pool [(1, u "java/io/Serializable"), (0, .class_ 1), (0, u "java/lang/Object"), (0, .class_ 3)] 3

/-- java/io/Serializable -/
def k5 : Class := { plain "java/io/Serializable" (some 0) with
  accessFlags := 1537
  interfaces := #[]
  cf := some (fileOf pool5 2 #[] #[] 1537 4 #[] #[])
  fields := #[]
  methods := #[]
  instanceTypes := #[]
  staticTypes := #[]
  resolved := Array.replicate 8 none
  statics := none }

/-- the primitive byte -/
def k6 : Class := { plain "byte" none with kind := .primitive 'B', accessFlags := 0x411 }
/-- [B -/
def k7 : Class := { plain "[B" (some 0) with kind := .array 6 .byte, interfaces := #[4, 5], accessFlags := 1041 }

/-- the primitive int -/
def k8 : Class := { plain "int" none with kind := .primitive 'I', accessFlags := 0x411 }
/-- [I -/
def k9 : Class := { plain "[I" (some 0) with kind := .array 8 .int, interfaces := #[4, 5], accessFlags := 1041 }

def heap : Heap := #[]
def classes : Array Class := #[k0, k1, k2, k3, k4, k5, k6, k7, k8, k9]
def interned : List (Array UInt16 × Addr) := []
def slotsUsed : Nat := 0
def theMethod : MethodId := ⟨1, 2⟩
def args0 : Array Value := #[.int 2, .int 3, .int 4, .int 5, .int 6]
def aboutOver (below : List Frame) : State where
  vm := { classes := classes, interned := interned.toArray }
  heap := heap
  slotsUsed := slotsUsed
  threads := #[{ frames := .invoking theMethod args0 :: below }]
def below0 : List Frame := [.native { method := ⟨0, 0⟩, args := #[] }]
def about1 : State := aboutOver below0
def p0 : Program := .bare "" "" ""
def e0 : Env := launch0.env 0 0 0
theorem w_frames : about1.frames = Frame.invoking theMethod args0 :: below0 := rfl
set_option maxRecDepth 65536 in
theorem w_args : argsFit about1.vm theMethod args0 = true := by decide +kernel
set_option maxRecDepth 65536 in
theorem w_heap : heapFits about1 = true := by decide +kernel
set_option maxRecDepth 65536 in
theorem w_runnable : about1.curStatus? = some .runnable := by decide +kernel
set_option maxRecDepth 65536 in
theorem w_alone : about1.alone = true := by decide +kernel
set_option maxRecDepth 65536 in
theorem w_named : about1.methodNamed? x = some theMethod := by decide +kernel
set_option maxRecDepth 65536 in
theorem w_hears : about1.hears theMethod below0 = true := by decide +kernel
set_option maxRecDepth 65536 in
theorem w_ripe : about1.ripe theMethod args0 below0 = true := by decide +kernel
theorem w_running : about1.status = .running := rfl
set_option maxRecDepth 65536 in
theorem w_room : about1.hasRoom e0.platform room_1 = true :=
  launch0.hasRoom_least _ room_1 (by decide +kernel) (by decide +kernel) (by decide +kernel) (by decide +kernel) (by decide +kernel) (by decide +kernel)
theorem allAtoms_all (ts : List Jvm.Cond) (a : Array Jvm.Value) (st : Jvm.State) : (allAtoms ts).before a st = ts.all (fun c => c.before a st) := by
  induction ts with
  | nil => rfl
  | cons c t ih =>
    show (Jvm.Cond.and c (allAtoms t)).before a st = _
    rw [Jvm.Cond.before_and, ih, List.all_cons]
def words1 : List Jvm.Cond := Jvm.Cond.code x code maxLocals ret :: tables_1
/-- a 'code' word, met by the world's own term for the bytes: nothing is compared byte by byte -/
theorem code_word {y : MethodName} {bytes : ByteArray} {mx : Nat} {rt : Option FieldType} {a : Array Value} {s : State} {m : MethodId} {meth : Method} {c : Code} (h1 : s.methodNamed? y = some m) (h2 : s.vm.method? m = some meth) (h3 : meth.code = some c) (h4 : c.code = bytes)
    (h5 : (c.maxLocals == mx && c.exceptionTable.isEmpty && decide (c.maxStack ≤ mostOperands) && decide (meth.sig.returnType = rt) && !meth.locks && decide (parseMethodDescriptor y.desc = some meth.sig)) = true) : (Jvm.Cond.code y bytes mx rt).before a s = true := by
  simp only [Bool.and_eq_true, beq_iff_eq, Bool.not_eq_true', decide_eq_true_eq] at h5
  obtain ⟨⟨⟨⟨⟨g1, g2⟩, g3⟩, g4⟩, g5⟩, g6⟩ := h5
  simp [Cond.before, Cond.holds, Cond.value, h1, h2, h3, h4, g1, g2, g3, g4, g5, g6]
def isCode : Jvm.Cond → Bool
  | .code _ _ _ _ => true
  | _ => false
theorem all_split {L : List Jvm.Cond} {P : Jvm.Cond → Bool} (h1 : L.all (fun c => isCode c || P c) = true) (h2 : ∀ c ∈ L.filter isCode, P c = true) : L.all P = true := by
  refine List.all_eq_true.mpr fun c hc => ?_
  have h := List.all_eq_true.mp h1 c hc
  rcases Bool.eq_false_or_eq_true (isCode c) with hi | hi
  · exact h2 c (List.mem_filter.mpr ⟨hc, hi⟩)
  · simpa [hi] using h
set_option maxRecDepth 65536 in
theorem w_c0 : (Jvm.Cond.code x code maxLocals ret).before args0 about1 = true := code_word (m := ⟨1, 2⟩) (meth := k1m2) (c := k1c2) (by decide +kernel) rfl rfl rfl (by decide +kernel)
set_option maxRecDepth 65536 in
theorem w_c1 : (Jvm.Cond.code ({ cls := "com/example/processes_as_trees/processesastrees/StateTupleHashCodePinLaw", name := "make", desc := "(IIII)[I" } : Jvm.MethodName) method_2_code (4 : Nat) (Option.some (Jvm.ClassFile.FieldType.array Jvm.ClassFile.FieldType.int))).before args0 about1 = true := code_word (m := ⟨1, 1⟩) (meth := k1m1) (c := k1c1) (by decide +kernel) rfl rfl rfl (by decide +kernel)
set_option maxRecDepth 65536 in
theorem w_c2 : (Jvm.Cond.code ({ cls := "com/example/processes_as_trees/processesastrees/StateTuple", name := "<init>", desc := "([I)V" } : Jvm.MethodName) prog_52_method_1_code (2 : Nat) (Option.none : Option Jvm.ClassFile.FieldType)).before args0 about1 = true := code_word (m := ⟨3, 0⟩) (meth := k3m0) (c := k3c0) (by decide +kernel) rfl rfl rfl (by decide +kernel)
set_option maxRecDepth 65536 in
theorem w_c3 : (Jvm.Cond.code ({ cls := "java/lang/Record", name := "<init>", desc := "()V" } : Jvm.MethodName) jdk_30_method_1_code (1 : Nat) (Option.none : Option Jvm.ClassFile.FieldType)).before args0 about1 = true := code_word (m := ⟨2, 0⟩) (meth := k2m0) (c := k2c0) (by decide +kernel) rfl rfl rfl (by decide +kernel)
set_option maxRecDepth 65536 in
theorem w_c4 : (Jvm.Cond.code ({ cls := "java/lang/Object", name := "<init>", desc := "()V" } : Jvm.MethodName) object_method_1_code (1 : Nat) (Option.none : Option Jvm.ClassFile.FieldType)).before args0 about1 = true := code_word (m := ⟨0, 0⟩) (meth := k0m0) (c := k0c0) (by decide +kernel) rfl rfl rfl (by decide +kernel)
set_option maxRecDepth 65536 in
theorem w_c5 : (Jvm.Cond.code ({ cls := "com/example/processes_as_trees/processesastrees/StateTuple", name := "hashCode", desc := "()I" } : Jvm.MethodName) prog_52_method_3_code (6 : Nat) (Option.some Jvm.ClassFile.FieldType.int)).before args0 about1 = true := code_word (m := ⟨3, 1⟩) (meth := k3m1) (c := k3c1) (by decide +kernel) rfl rfl rfl (by decide +kernel)
def codes1 : List Jvm.Cond := [Jvm.Cond.code x code maxLocals ret, Jvm.Cond.code ({ cls := "com/example/processes_as_trees/processesastrees/StateTupleHashCodePinLaw", name := "make", desc := "(IIII)[I" } : Jvm.MethodName) method_2_code (4 : Nat) (Option.some (Jvm.ClassFile.FieldType.array Jvm.ClassFile.FieldType.int)), Jvm.Cond.code ({ cls := "com/example/processes_as_trees/processesastrees/StateTuple", name := "<init>", desc := "([I)V" } : Jvm.MethodName) prog_52_method_1_code (2 : Nat) (Option.none : Option Jvm.ClassFile.FieldType), Jvm.Cond.code ({ cls := "java/lang/Record", name := "<init>", desc := "()V" } : Jvm.MethodName) jdk_30_method_1_code (1 : Nat) (Option.none : Option Jvm.ClassFile.FieldType), Jvm.Cond.code ({ cls := "java/lang/Object", name := "<init>", desc := "()V" } : Jvm.MethodName) object_method_1_code (1 : Nat) (Option.none : Option Jvm.ClassFile.FieldType), Jvm.Cond.code ({ cls := "com/example/processes_as_trees/processesastrees/StateTuple", name := "hashCode", desc := "()I" } : Jvm.MethodName) prog_52_method_3_code (6 : Nat) (Option.some Jvm.ClassFile.FieldType.int)]
set_option maxRecDepth 65536 in
theorem codes_eq : words1.filter isCode = codes1 := rfl
theorem w_codes : ∀ c ∈ words1.filter isCode, c.before args0 about1 = true := by
  rw [codes_eq]
  intro c hc
  simp only [codes1, List.mem_cons, List.not_mem_nil, or_false] at hc
  rcases hc with rfl | rfl | rfl | rfl | rfl | rfl
  · exact w_c0
  · exact w_c1
  · exact w_c2
  · exact w_c3
  · exact w_c4
  · exact w_c5
set_option maxRecDepth 65536 in
theorem w_t1 : (words1.take 24).all (fun c => isCode c || c.before args0 about1) = true := by decide +kernel
set_option maxRecDepth 65536 in
theorem w_t2 : (words1.drop 24).all (fun c => isCode c || c.before args0 about1) = true := by decide +kernel
theorem w_tables : (allAtoms (Jvm.Cond.code x code maxLocals ret :: tables_1)).before args0 about1 = true := by
  rw [allAtoms_all]
  show words1.all (fun c => c.before args0 about1) = true
  refine all_split ?_ w_codes
  rw [← List.take_append_drop 24 words1, List.all_append, w_t1, w_t2]
  rfl
set_option maxRecDepth 65536 in
theorem w_case : (Jvm.Cond.and given_1 narrow_1).before args0 about1 = true := by decide +kernel
theorem w_applies : (headSpec (Jvm.Cond.code x code maxLocals ret :: tables_1) room_1).applies x e0.platform about1 = true :=
  (Spec.applies_iff w_frames).mpr ⟨w_running, w_runnable, w_alone, w_named, w_hears, w_ripe, w_room, w_tables⟩
theorem atStart : AtStart classFile x code maxLocals ret World_1 tables_1 room_1 Calls_1 rest_1 Pre_1 launch0 p0 e0 about1 theMethod args0 below0 :=
  ⟨lists_1, trivial, launch0.admits_env _ _ _, launch0.least_env, fairChoices_fair.cas, fairChoices_fair.clock, w_frames, w_args, w_heap, w_applies, trivial, trivial, w_case⟩
end start1
theorem witness_1 : WitnessClaimed_1 := ⟨start1.p0, start1.e0, start1.about1, start1.theMethod, start1.args0, start1.below0, start1.atStart⟩
end Jvm.Pilot.@@N@@
