import JvmDerived
import JvmDerived.Pilot.@@N@@Statement
import JvmDerived.Pilot.@@N@@Code
set_option linter.unusedVariables false
set_option linter.unusedSimpArgs false
namespace Jvm.RoadKit
open Sem ClassFile Op Lib Jvm.Stand Jvm.Free Jvm.LawKit
section New
variable {p : Program} {l : Launch} {e : Env} {R : Room} {s : State} {m : MethodId} {args : Array Value} {below : List Frame} {meth : Method} {c : Code} {T : State} {locs : List Loc} {cells slots : Nat}
theorem retI (X : Stand p l e R s m args below meth c T locs cells slots) (hx : p.tables.exec = Jvm.exec) {pc : Nat} {Ls : Array Slot} {z : Int32} {rest : List Value} (hret : meth.sig.returnType = some .int) (hd : decode c.code pc = .ok (.ireturn, 1)) {fs : List Frame}
    (hl : ∀ (f : JFrame) (acts : List Action), f.method = m → f.locked = none → f.entered = [] → (doReturn e (T.setTop f) acts (some (.int z))).1 = T.setFrames fs) : Steps p.tables e below (T.setTop (mkF m pc Ls (.int z :: rest))) (T.setFrames fs) := by
  have hm' : T.vm.method? m = some meth := X.method'
  have hn : narrow .int (.int z) = .int z := rfl
  show Steps p.tables e below (T.setTop { method := m, pc := pc, locals := Ls, stack := _ :: rest, locked := none }) _
  jvm_step X.here [X.here.top, hx, hd, hm', hret, hn]
  first | (intro acts; rw [hl _ acts rfl rfl rfl]) | rw [hl _ _ rfl rfl rfl]
  exact Steps.refl _
/-- the run from A ends, and P holds at the end -/
def own_Go (p : Program) (e : Env) (below : List Frame) (A : State) (P : State → Outcome → Prop) : Prop := ∃ s₂ o, Steps p.tables e below A s₂ ∧ s₂.status = .running ∧ Ended s₂ below o ∧ P s₂ o
theorem own_by {A B : State} {P : State → Outcome → Prop} (h : ∀ t, Steps p.tables e below B t → Steps p.tables e below A t) (g : own_Go p e below B P) : own_Go p e below A P := by
  obtain ⟨s2, o, h1, h2⟩ := g
  exact ⟨s2, o, h _ h1, h2⟩
theorem own_end (X : Stand p l e R s m args below meth c T locs cells slots) {v : Option Value} (hv : meth.sig.returnType = none → v = none) (hlk : meth.locks = false) {A : State} {Q : Option Value → Heap → List Loc → Prop} {k n : Nat}
    (hs : ∀ fs, (∀ (f : JFrame) (acts : List Action), f.method = m → f.locked = none → f.entered = [] → (doReturn e (T.setTop f) acts v).1 = T.setFrames fs) → Steps p.tables e below A (T.setFrames fs))
    (hq : Q v T.heap locs) (hk : cells ≤ k) (hn : slots ≤ n) : own_Go p e below A (fun t o => ∃ v L, o = .returned v ∧ Q v t.heap L ∧ FrameEnd s o t L k n) := by
  obtain ⟨fs, hr, hrun, hended, hW, hsame⟩ := X.leave (v := v) hv hlk
  exact ⟨_, _, hs fs hr, hrun, hended, _, _, rfl, hq, ⟨_, rfl⟩, hW, hsame.mono hk hn⟩
theorem own_endW {vm₁ : Vm} (X : Stand p l e R (s.setVm vm₁) m args below meth c T locs cells slots) {n0 : Nat} (hS : s.Since vm₁ n0) (hn0 : n0 ≤ T.heap.size) {v : Option Value} (hv : meth.sig.returnType = none → v = none) (hlk : meth.locks = false) {A : State} {Q : Option Value → Heap → List Loc → Prop} {k n : Nat}
    (hs : ∀ fs, (∀ (f : JFrame) (acts : List Action), f.method = m → f.locked = none → f.entered = [] → (doReturn e (T.setTop f) acts v).1 = T.setFrames fs) → Steps p.tables e below A (T.setFrames fs))
    (hq : Q v T.heap locs) (hk : cells ≤ k) (hn : slots ≤ n) : own_Go p e below A (fun t o => ∃ v L, o = .returned v ∧ Q v t.heap L ∧ ReturnedEndW s o t L k n) := by
  obtain ⟨fs, hr, hrun, hended, h1, h2, h3, h4⟩ := X.leaveW hS hn0 (v := v) hv hlk
  exact ⟨_, _, hs fs hr, hrun, hended, _, _, rfl, hq, h1, h2, h3, h4.mono hk hn⟩
theorem own_newPE {Z : State} {a0 : Array Value} {h : Heap} (X : Stand p l e R s m args below meth c T locs cells slots) (hx : p.tables.exec = Jvm.exec) (hZ : Z.Warmed39 s.vm) {aty : ArrayType} (w : (Cond.arrayClass (newarray.typeOf aty)).before a0 Z = true) (eT : T.heap = h) {g : JFrame} (hg : g.method = m) (hd : decode c.code g.pc = .ok (.newarray aty, 2)) {n : Int32} {rest : List Value} (hs : g.stack = .int n :: rest)
    (hn : ¬ n < 0) {cap : Nat} (hcap : n.toNatClampNeg ≤ cap) (hb : cap * 8 ≤ 536870912) (hc : cells + 1 ≤ R.cells) (hl : slots + cap ≤ R.slots) {ad : String} (had : "[" ++ (newarray.typeOf aty).toString = ad) :
    ∃ T' h' cA, Stand p l e R s m args below meth c T' locs (cells + 1) (slots + cap) ∧ T'.heap = h' ∧ Ext h h' ∧ Arr Z h' h.size (newA cA (newarray.typeOf aty) n) (newarray.typeOf aty) ∧ Exa Z h' h.size ad ∧
      ∀ target, Steps p.tables e below (T'.setTop { g with pc := g.pc + 2, stack := .ref h.size :: rest }) target → Steps p.tables e below (T.setTop g) target := by
  have hcb : componentBytes (newarray.typeOf aty) ≤ 8 := by cases aty <;> decide
  obtain ⟨cA, kA, comp, f1, f2, f3, Y, st⟩ := X.newarrayPrim hx (mvA hZ w) hg hd hs hn (Nat.le_trans (Nat.mul_le_mul hcap hcb) hb) hc (Nat.le_trans (Nat.add_le_add_left hcap _) hl)
  subst eT had
  have f1' : Z.vm.findClass ("[" ++ (newarray.typeOf aty).toString) = some cA := by rw [← hZ.alike.findClass]; exact f1
  obtain ⟨kZ, z1, -⟩ := Vm.findClass_spec f1'
  obtain ⟨k', z2, z3⟩ := hZ.alike.2.2 _ _ z1
  have ek : kA = k' := Option.some.inj (f2.symm.trans z2)
  have kd : kZ.kind = .array comp (newarray.typeOf aty) := by rw [← f3, ek, z3]
  have hN : (T.heap.push (newA cA (newarray.typeOf aty) n))[T.heap.size]? = some (newA cA (newarray.typeOf aty) n) := by simp
  refine ⟨_, _, cA, Y.more (Nat.le_refl _) (Nat.add_le_add_left hcap _), rfl, ext_of fun a q => ?_, ⟨hN, ⟨fun _ z => (by cases z), kZ, z1, comp, kd⟩, fun z => (by cases z)⟩, ⟨_, kZ, hN, f1', z1, rfl, fun ho => by rw [kd] at ho; cases ho⟩, st⟩
  exact (Array.getElem?_push_lt q).trans (Array.getElem?_eq_getElem q).symm
end New
section Arf
variable {Z : State} {h h' : Heap} {a b : Addr} {ty : FieldType} {n z : Int32} {f g : Nat → Value} {sl : Nat} {v : Value} {ws : List Addr} {k : ClassId}
/-- an array of n places, of which place i holds f i -/
def own_Arf (Z : State) (h : Heap) (a : Addr) (ty : FieldType) (n : Int32) (f : Nat → Value) : Prop := ∃ c : Cell, Arr Z h a c ty ∧ c.slots.size = n.toNatClampNeg ∧ ¬ n < 0 ∧ ∀ i, i < c.slots.size → c.slots[i]? = some (f i)
theorem own_Arf.lt (F : own_Arf Z h a ty n f) : a < h.size := by obtain ⟨c, A, -⟩ := F; exact A.lt
theorem own_Arf.ext (F : own_Arf Z h a ty n f) (E : Ext h h') : own_Arf Z h' a ty n f := by obtain ⟨c, A, r⟩ := F; exact ⟨c, A.ext E, r⟩
theorem own_Arf.other (F : own_Arf Z h b ty n f) (W : Wr h h' a sl v) (q : b ≠ a) : own_Arf Z h' b ty n f := by obtain ⟨c, A, r⟩ := F; exact ⟨c, A.other W q, r⟩
theorem own_Arf.keep (F : own_Arf Z h a ty n f) (K : Keep h h' ws) (q : a ∉ ws) : own_Arf Z h' a ty n f := by obtain ⟨c, A, r⟩ := F; exact ⟨c, ⟨K.2.1 a c A.1 q, A.2⟩, r⟩
theorem own_Arf.new (A : Arr Z h a (newA k ty z) ty) (q : ¬ z < 0) : own_Arf Z h a ty z (fun _ => defaultValue ty) := ⟨_, A, sz_new _ _ _, q, fun i hi => by
  rw [sz_new] at hi
  simp [newA, hi]⟩
theorem own_Arf.set (F : own_Arf Z h a ty n f) (W : Wr h h' a sl v) : own_Arf Z h' a ty n (fun i => if i = sl then v else f i) := by
  obtain ⟨c, A, S, N, H⟩ := F
  have hsl : sl < c.slots.size := by
    obtain ⟨c2, e1, -, e3, -⟩ := W
    cases A.1.symm.trans e1
    exact e3
  refine ⟨_, A.same W, by rw [sz_set]; exact S, N, fun i hi => ?_⟩
  rw [sz_set] at hi
  by_cases e : i = sl
  · subst e
    simp [Cell.setSlot, hi]
  · simp only [Cell.setSlot, if_neg e]
    rw [Array.getElem?_setIfInBounds_ne (Ne.symm e)]
    exact H i hi
theorem own_Arf.congr (F : own_Arf Z h a ty n f) (q : ∀ i, i < n.toNatClampNeg → f i = g i) : own_Arf Z h a ty n g := by
  obtain ⟨c, A, S, N, H⟩ := F
  exact ⟨c, A, S, N, fun i hi => by rw [← q i (by rw [← S]; exact hi)]; exact H i hi⟩
theorem own_Arf.at (F : own_Arf Z h a ty n f) {j : Int32} (q : ¬ j < 0 ∧ j < n) : ∃ c : Cell, Arr Z h a c ty ∧ ¬ (j < 0 ∨ c.slots.size ≤ j.toNatClampNeg) ∧ c.slots[j.toNatClampNeg]? = some (f j.toNatClampNeg) := by
  obtain ⟨c, A, S, N, H⟩ := F
  have hin := inb_of S q
  exact ⟨c, A, hin, H _ (Nat.lt_of_not_le fun y => hin (Or.inr y))⟩
theorem own_Arf.nn (F : own_Arf Z h a ty n f) : ¬ n < 0 := by obtain ⟨c, A, S, N, H⟩ := F; exact N
/-- an array of objects of the class C -/
def own_Ovr (Z : State) (h : Heap) (a : Addr) (C : String) : Prop := ∃ (c : Cell) (ty : FieldType), Arr Z h a c ty ∧ Ovr Z c.cls C
theorem own_Ovr.wr {C : String} (W : Wr h h' b sl v) (F : own_Ovr Z h a C) : own_Ovr Z h' a C := by
  obtain ⟨c, ty, A, O⟩ := F
  by_cases e : a = b
  · subst e; exact ⟨_, ty, A.same W, O⟩
  · exact ⟨c, ty, A.other W e, O⟩
theorem own_Ovr.ext {C : String} (F : own_Ovr Z h a C) (E : Ext h h') : own_Ovr Z h' a C := by obtain ⟨c, ty, A, O⟩ := F; exact ⟨c, ty, A.ext E, O⟩
theorem own_Ovr.sto {C : String} {y : Addr} (F : own_Ovr Z h a C) (I : Exa Z h y C) : Sto Z h a (.ref y) := by obtain ⟨c, ty, A, O⟩ := F; exact Sto.of A O (Ins.self I)
theorem own_selp {s : State} {a0 args : Array Value} {y : MethodName} {n : Nat} (hZ : Z.Warmed39 s.vm) (wi : (Cond.instantiable y.cls n).before a0 Z = true) (wn : (Cond.instanceMethod y).before a0 Z = true) (wp : (Cond.privateMethod y).before a0 Z = true) (hy : y.cls ≠ "java/lang/invoke/MethodHandle" ∧ y.cls ≠ "java/lang/invoke/VarHandle") : (Cond.selects y.cls y y).before args s = true := by
  obtain ⟨c2, k2, i1, i2, -, i4, -⟩ := Cond.instantiable_spec (mvT hZ wi : (Cond.instantiable y.cls n).before args s = true)
  simp only [Bool.or_eq_false_iff] at i4
  exact selects_self_of_private i1 i2 i4.1 (Cond.privateMethod_at (mvP hZ wp (args := args))) (mvT hZ wn) hy
theorem own_sta_keep {C n d : String} {w : Value} (F : Sta Z h C n d w) (K : Keep h h' []) : Sta Z h' C n d w := by
  obtain ⟨cf, i, k, f, st, cell, h1, h2, h3, h4, h5, h6⟩ := F
  exact ⟨cf, i, k, f, st, cell, h1, h2, h3, h4, K.2.1 _ _ h5 nin0, h6⟩
theorem own_ofNat_int {m : Nat} (h : m < 2 ^ 31) : (Int32.ofNat m).toInt = m := Int32.toInt_ofNat_of_lt h
theorem own_tn {m : Nat} (h : m < 2 ^ 31) : (Int32.ofNat m).toNatClampNeg = m := by
  show (Int32.ofNat m).toInt.toNat = m
  rw [own_ofNat_int h]; omega
theorem own_nn {m : Nat} (h : m < 2 ^ 31) : ¬ Int32.ofNat m < 0 := by
  rw [Int32.lt_iff_toInt_lt, own_ofNat_int h]; show ¬ (m : Int) < 0; omega
theorem own_ltN {i m : Nat} (h : i < m) (hm : m < 2 ^ 31) : Int32.ofNat i < Int32.ofNat m := by
  rw [Int32.lt_iff_toInt_lt, own_ofNat_int hm, own_ofNat_int (by omega)]; omega
theorem own_in {i m : Nat} (h : i < m) (hm : m < 2 ^ 31) : ¬ Int32.ofNat i < 0 ∧ Int32.ofNat i < Int32.ofNat m := ⟨own_nn (by omega), own_ltN h hm⟩
theorem own_injN {i m : Nat} (hi : i < 2 ^ 31) (hm : m < 2 ^ 31) (e : Int32.ofNat i = Int32.ofNat m) : i = m := by
  have := congrArg Int32.toInt e
  rw [own_ofNat_int hi, own_ofNat_int hm] at this; omega
theorem own_Arf.arv (F : own_Arf Z h a ty n f) (hf : ∀ i, i < n.toNatClampNeg → fits ty (f i) = true) (d : Value) : ∃ k, Arv Z h a k ty n ((List.range n.toNatClampNeg).map f) d := by
  obtain ⟨c, A, S, N, H⟩ := F
  have hg : ∀ i, i < n.toNatClampNeg → ((List.range n.toNatClampNeg).map f).getD i d = f i := fun i hi => by
    simp [List.getD, hi]
  refine ⟨c.cls, c, A, rfl, S, N, fun i hi => ?_, fun i hi => ?_⟩
  · rw [hg i (by rw [← S]; exact hi)]; exact H i hi
  · rw [hg i (by rw [← S]; exact hi)]; exact hf i (by rw [← S]; exact hi)
theorem own_Arf.of {vs : List Value} {d : Value} (F : Arv Z h a k ty n vs d) : own_Arf Z h a ty n (fun i => vs.getD i d) := by
  obtain ⟨c, A, -, S, N, H, -⟩ := F
  exact ⟨c, A, S, N, H⟩
end Arf
end Jvm.RoadKit
namespace Jvm.Pilot.@@N@@
open Jvm Jvm.ClassFile Sem Op Lib Jvm.Free Jvm.Stand Jvm.LawKit Jvm.RoadKit Bundle Jvm.Pilot.@@N@@.Jvm.D
def own_wr (d : Int32) (q : Int64) : Int32 := if (256 : Int32) < d then 0 else if (0 : Int32) < lcmpW q (2147483647 : Int64) then 0 else 1
theorem d2_0 : decode jdk_30_method_1_code 0 = .ok (.aload_n 0, 1) := by decide +kernel
theorem d2_1 : decode jdk_30_method_1_code 1 = .ok (.invokespecial 1, 3) := by decide +kernel
theorem d2_4 : decode jdk_30_method_1_code 4 = .ok (.return_, 1) := by decide +kernel
theorem own_pn0 : plainName "java/lang/Record" = true := by first | (simp [plainName, overriddenIn]; done) | decide +kernel
theorem ef_rmRec (m : MethodId) (x0 : Addr) : entryFrame m #[(.ref x0)] 1 = mkF m 0 #[.val (.ref x0)] [] := by first | (simp [entryFrame, mkF, argsToLocals, Value.category]; done) | rfl
def Q_rmRec (Z : State) (r0 : Addr) (h0 : Heap) (n0 : Nat) (v : Option Value) (h : Heap) (L : List Loc) : Prop := v = none ∧ Fr n0 L ∧ h = h0
set_option maxRecDepth 65536 in
set_option maxHeartbeats 40000000 in
theorem rmRec (l : Launch) (Z : State) (a0 : Array Value) (hw : ∀ d ∈ tables_1, d.before a0 Z = true) (ws : List Jvm.Cond) (r0 : Addr) (h0 : Heap) (n0 : Nat) (Z0 : n0 ≤ h0.size)  :
    MetFree l (⟨"java/lang/Record", "<init>", "()V"⟩ : MethodName) (head1 (Jvm.Cond.code (⟨"java/lang/Record", "<init>", "()V"⟩ : MethodName) jdk_30_method_1_code 1 none :: ws) ({ frames := 1, cells := 0, slots := 0, locals := 12 } : Room)) (fun a U => a = #[(.ref r0)] ∧ Z.Warmed39 U.vm ∧ U.heap = h0) (fun _ _ _ _ _ => True) (fun _ U o U' => ∃ v L, o = .returned v ∧ Q_rmRec Z r0 h0 n0 v U'.heap L ∧ FrameEnd U o U' L ({ frames := 1, cells := 0, slots := 0, locals := 12 } : Room).cells ({ frames := 1, cells := 0, slots := 0, locals := 12 } : Room).slots) := by
  refine MetFree.of_bodySF (plainFor_of_name own_pn0) hisR ?_
  intro p e s m args below meth c s₁ Bd hml0 hP hK
  obtain ⟨rfl, hZ, hh⟩ := hP
  have hx := Bd.exec
  have hby := Bd.bytes
  have hml : c.maxLocals = 1 := hml0
  have hown : s.vm.findClass "java/lang/Record" = some m.cls := findClass_of_methodNamed Bd.named
  have hnm := (name_of_methodNamed Bd.named Bd.method).1
  have X0 : Stand p l e ({ frames := 1, cells := 0, slots := 0, locals := 12 } : Room) s m #[(.ref r0)] below meth c s₁ [] 0 0 := Stand.of_body Bd
  have e0 : s₁.heap = h0 := by rw [← hh, Bd.state]; rfl
  show own_Go p e below (s₁.setTop (entryFrame m #[(.ref r0)] 1)) (fun t o => ∃ v L, o = .returned v ∧ Q_rmRec Z r0 h0 n0 v t.heap L ∧ FrameEnd s o t L ({ frames := 1, cells := 0, slots := 0, locals := 12 } : Room).cells ({ frames := 1, cells := 0, slots := 0, locals := 12 } : Room).slots)
  refine own_by (B := s₁.setTop (mkF m 0 #[.val (.ref r0)] [])) (fun t k => castTop (ef_rmRec m r0) k) ?_
  have Nf := Fr.nil n0
  have Zs := Z0
  refine own_by (B := s₁.setTop (mkF m 1 #[.val (.ref r0)] [(.ref r0)])) (fun t k => XS.aloadN X0.here hx rfl (hb hby d2_0) rfl rfl k) ?_
  obtain ⟨T1, X1, e1, st1⟩ := initO X0 hx hZ hown (hw _ (List.mem_of_getElem? (i := 11) rfl)) (hw _ (List.mem_of_getElem? (i := 12) rfl)) (hw _ (List.mem_of_getElem? (i := 13) rfl)) e0 (g := (mkF m 1 #[.val (.ref r0)] [(.ref r0)])) rfl (by rw [hml]; rfl) rfl (hb hby d2_1) (by decide) (W := 0) (by show 2 * 0 + _ ≤ _; exact Nat.le_of_eq rfl) (by decide)
  refine own_by (B := T1.setTop (mkF m 4 #[.val (.ref r0)] [])) st1 ?_
  exact own_end X1 (v := none) (fun _ => rfl) (BodyLoose.notSynchronized Bd) (Q := (Q_rmRec Z r0 h0 n0)) (fun fs hr => X1.returnOut hx Bd.returns (hb hby d2_4) hr) (show (Q_rmRec Z r0 h0 n0) _ T1.heap _ from (by rw [e1]; exact ⟨rfl, Nf, rfl⟩)) (by decide) (by decide)
theorem own_pd0 : parseMethodDescriptor "()V" = some ⟨[], none⟩ := by decide +kernel
theorem d1_0 : decode prog_86_method_1_code 0 = .ok (.aload_n 0, 1) := by decide +kernel
theorem d1_1 : decode prog_86_method_1_code 1 = .ok (.invokespecial 3, 3) := by decide +kernel
theorem d1_4 : decode prog_86_method_1_code 4 = .ok (.aload_n 0, 1) := by decide +kernel
theorem d1_5 : decode prog_86_method_1_code 5 = .ok (.iload_n 1, 1) := by decide +kernel
theorem d1_6 : decode prog_86_method_1_code 6 = .ok (.putfield 9, 3) := by decide +kernel
theorem d1_9 : decode prog_86_method_1_code 9 = .ok (.aload_n 0, 1) := by decide +kernel
theorem d1_10 : decode prog_86_method_1_code 10 = .ok (.lload_n 2, 1) := by decide +kernel
theorem d1_11 : decode prog_86_method_1_code 11 = .ok (.putfield 15, 3) := by decide +kernel
theorem d1_14 : decode prog_86_method_1_code 14 = .ok (.return_, 1) := by decide +kernel
theorem own_pn1 : plainName "com/example/bivista/bivista/query/QueryWriter$Measure" = true := by first | (simp [plainName, overriddenIn]; done) | decide +kernel
theorem ef_rmI (m : MethodId) (x0 : Addr) (x1 : Int32) (x2 : Int64) : entryFrame m #[(.ref x0), (.int x1), (.long x2)] 4 = mkF m 0 #[.val (.ref x0), .val (.int x1), .val (.long x2), .second] [] := by first | (simp [entryFrame, mkF, argsToLocals, Value.category]; done) | rfl
def Q_rmI (Z : State) (r0 : Addr) (i1 : Int32) (j2 : Int64) (h0 : Heap) (n0 : Nat) (v : Option Value) (h : Heap) (L : List Loc) : Prop := v = none ∧ Fr n0 L ∧ Keep h0 h [r0] ∧ Exa Z h r0 "com/example/bivista/bivista/query/QueryWriter$Measure" ∧ Fld Z h r0 "com/example/bivista/bivista/query/QueryWriter$Measure" "depth" "I" (.int i1) ∧ Fld Z h r0 "com/example/bivista/bivista/query/QueryWriter$Measure" "length" "J" (.long j2)
set_option maxRecDepth 65536 in
set_option maxHeartbeats 40000000 in
theorem rmI (l : Launch) (Z : State) (a0 : Array Value) (hw : ∀ d ∈ tables_1, d.before a0 Z = true) (ws : List Jvm.Cond) (r0 : Addr) (i1 : Int32) (j2 : Int64) (h0 : Heap) (n0 : Nat) (Z0 : n0 ≤ h0.size) (E_r0 : Exa Z h0 r0 "com/example/bivista/bivista/query/QueryWriter$Measure") (F_depth_r0 : Fld Z h0 r0 "com/example/bivista/bivista/query/QueryWriter$Measure" "depth" "I" (.int (0 : Int32))) (F_length_r0 : Fld Z h0 r0 "com/example/bivista/bivista/query/QueryWriter$Measure" "length" "J" (.long (0 : Int64))) (g_r0 : n0 ≤ r0) :
    MetFree l (⟨"com/example/bivista/bivista/query/QueryWriter$Measure", "<init>", "(IJ)V"⟩ : MethodName) (head1 (Jvm.Cond.code (⟨"com/example/bivista/bivista/query/QueryWriter$Measure", "<init>", "(IJ)V"⟩ : MethodName) prog_86_method_1_code 4 none :: ws) ({ frames := 2, cells := 0, slots := 0, locals := 24 } : Room)) (fun a U => a = #[(.ref r0), (.int i1), (.long j2)] ∧ Z.Warmed39 U.vm ∧ U.heap = h0) (fun _ _ _ _ _ => True) (fun _ U o U' => ∃ v L, o = .returned v ∧ Q_rmI Z r0 i1 j2 h0 n0 v U'.heap L ∧ FrameEnd U o U' L ({ frames := 2, cells := 0, slots := 0, locals := 24 } : Room).cells ({ frames := 2, cells := 0, slots := 0, locals := 24 } : Room).slots) := by
  refine MetFree.of_bodySF (plainFor_of_name own_pn1) hisR ?_
  intro p e s m args below meth c s₁ Bd hml0 hP hK
  obtain ⟨rfl, hZ, hh⟩ := hP
  have hx := Bd.exec
  have hby := Bd.bytes
  have hml : c.maxLocals = 4 := hml0
  have hown : s.vm.findClass "com/example/bivista/bivista/query/QueryWriter$Measure" = some m.cls := findClass_of_methodNamed Bd.named
  have hnm := (name_of_methodNamed Bd.named Bd.method).1
  have X0 : Stand p l e ({ frames := 2, cells := 0, slots := 0, locals := 24 } : Room) s m #[(.ref r0), (.int i1), (.long j2)] below meth c s₁ [] 0 0 := Stand.of_body Bd
  have e0 : s₁.heap = h0 := by rw [← hh, Bd.state]; rfl
  show own_Go p e below (s₁.setTop (entryFrame m #[(.ref r0), (.int i1), (.long j2)] 4)) (fun t o => ∃ v L, o = .returned v ∧ Q_rmI Z r0 i1 j2 h0 n0 v t.heap L ∧ FrameEnd s o t L ({ frames := 2, cells := 0, slots := 0, locals := 24 } : Room).cells ({ frames := 2, cells := 0, slots := 0, locals := 24 } : Room).slots)
  refine own_by (B := s₁.setTop (mkF m 0 #[.val (.ref r0), .val (.int i1), .val (.long j2), .second] [])) (fun t k => castTop (ef_rmI m r0 i1 j2) k) ?_
  have Nf := Fr.nil n0
  have Zs := Z0
  have Kp := Keep.refl h0 [r0]
  refine own_by (B := s₁.setTop (mkF m 1 #[.val (.ref r0), .val (.int i1), .val (.long j2), .second] [(.ref r0)])) (fun t k => XS.aloadN X0.here hx rfl (hb hby d1_0) rfl rfl k) ?_
  obtain ⟨_, _, ⟨T1, L1, k1, n1⟩, -, X1, ⟨Lc1, hQ1, l1, y1, z1⟩, st1⟩ := X0.specialBack hx (y := (⟨"java/lang/Record", "<init>", "()V"⟩ : MethodName)) rfl hown (mvT hZ (hw _ (List.mem_of_getElem? (i := 6) rfl))) (mvT hZ (hw _ (List.mem_of_getElem? (i := 7) rfl))) (mvT hZ (hw _ (List.mem_of_getElem? (i := 10) rfl))) (by decide) (backOf (W := 0) (rmRec l Z a0 hw [] r0 h0 n0 Zs) hZ (hw _ (List.mem_of_getElem? (i := 10) rfl)) (hw _ (List.mem_of_getElem? (i := 9) rfl)) (by decide) (by decide)) (g := (mkF m 1 #[.val (.ref r0), .val (.int i1), .val (.long j2), .second] [(.ref r0)])) rfl (by rw [hml]; rfl) (Steps.refl _) (a := r0) (argsL := []) (rest := []) (lenOf own_pd0 rfl) rfl (by show 2 * 0 + _ ≤ _; exact Nat.le_of_eq rfl) (hb hby d1_1) (fun _ _ => ⟨rfl, e0, (by decide : 0 + 0 ≤ _), (by decide : 0 + 0 ≤ _)⟩)
  dsimp only [Pt.U, Pt.locs, Pt.cells, Pt.slots] at X1 l1 y1 z1 st1 hQ1
  subst l1 y1 z1
  obtain ⟨rfl, Nq1, hp1⟩ := hQ1
  have Nf := Fr.app Nf Nq1
  have ec1 : T1.heap = h0 := hp1
  refine own_by (B := T1.setTop (mkF m 4 #[.val (.ref r0), .val (.int i1), .val (.long j2), .second] [])) (fun t k => st1.trans k) ?_
  refine own_by (B := T1.setTop (mkF m 5 #[.val (.ref r0), .val (.int i1), .val (.long j2), .second] [(.ref r0)])) (fun t k => XS.aloadN X1.here hx rfl (hb hby d1_4) rfl rfl k) ?_
  refine own_by (B := T1.setTop (mkF m 6 #[.val (.ref r0), .val (.int i1), .val (.long j2), .second] [(.int i1), (.ref r0)])) (fun t k => XS.iloadN X1.here hx rfl (hb hby d1_5) rfl k) ?_
  obtain ⟨T2, h2, X2, e2, W2, st2⟩ := putF X1 hx hZ hown (host := "") (Or.inl (hw _ (List.mem_of_getElem? (i := 14) rfl))) Via.refl ec1 F_depth_r0 E_r0 (Or.inr ⟨(hw _ (List.mem_of_getElem? (i := 15) rfl)), rfl, hnm⟩) (hw _ (List.mem_of_getElem? (i := 1) rfl)) (ty := .int) (by decide) rfl rfl (g := (mkF m 6 #[.val (.ref r0), .val (.int i1), .val (.long j2), .second] [(.int i1), (.ref r0)])) rfl rfl (hb hby d1_6)
  have E_r0 := E_r0.wr W2
  have F_depth_r0 := F_depth_r0.same W2
  have F_length_r0 := F_length_r0.other W2 (Or.inr (slot_ne (Or.inr (hw _ (List.mem_of_getElem? (i := 17) rfl))) (Or.inr (hw _ (List.mem_of_getElem? (i := 15) rfl))) (by decide) (t := .long) (t' := .int) (by decide) (by decide)))
  have Zs : n0 ≤ h2.size := by rw [W2.size]; exact Zs
  have Kp := Kp.wr W2 (Or.inl (List.mem_of_getElem? (i := 0) rfl))
  have Nf := Fr.snoc X2 Nf g_r0
  refine own_by (B := T2.setTop (mkF m 9 #[.val (.ref r0), .val (.int i1), .val (.long j2), .second] [])) st2 ?_
  refine own_by (B := T2.setTop (mkF m 10 #[.val (.ref r0), .val (.int i1), .val (.long j2), .second] [(.ref r0)])) (fun t k => XS.aloadN X2.here hx rfl (hb hby d1_9) rfl rfl k) ?_
  refine own_by (B := T2.setTop (mkF m 11 #[.val (.ref r0), .val (.int i1), .val (.long j2), .second] [(.long j2), (.ref r0)])) (fun t k => XS.lloadN X2.here hx rfl (hb hby d1_10) rfl k) ?_
  obtain ⟨T3, h3, X3, e3, W3, st3⟩ := putF X2 hx hZ hown (host := "") (Or.inl (hw _ (List.mem_of_getElem? (i := 16) rfl))) Via.refl e2 F_length_r0 E_r0 (Or.inr ⟨(hw _ (List.mem_of_getElem? (i := 17) rfl)), rfl, hnm⟩) (hw _ (List.mem_of_getElem? (i := 1) rfl)) (ty := .long) (by decide) rfl rfl (g := (mkF m 11 #[.val (.ref r0), .val (.int i1), .val (.long j2), .second] [(.long j2), (.ref r0)])) rfl rfl (hb hby d1_11)
  have E_r0 := E_r0.wr W3
  have F_depth_r0 := F_depth_r0.other W3 (Or.inr (slot_ne (Or.inr (hw _ (List.mem_of_getElem? (i := 15) rfl))) (Or.inr (hw _ (List.mem_of_getElem? (i := 17) rfl))) (by decide) (t := .int) (t' := .long) (by decide) (by decide)))
  have F_length_r0 := F_length_r0.same W3
  have Zs : n0 ≤ h3.size := by rw [W3.size]; exact Zs
  have Kp := Kp.wr W3 (Or.inl (List.mem_of_getElem? (i := 0) rfl))
  have Nf := Fr.snoc X3 Nf g_r0
  refine own_by (B := T3.setTop (mkF m 14 #[.val (.ref r0), .val (.int i1), .val (.long j2), .second] [])) st3 ?_
  exact own_end X3 (v := none) (fun _ => rfl) (BodyLoose.notSynchronized Bd) (Q := (Q_rmI Z r0 i1 j2 h0 n0)) (fun fs hr => X3.returnOut hx Bd.returns (hb hby d1_14) hr) (show (Q_rmI Z r0 i1 j2 h0 n0) _ T3.heap _ from (by rw [e3]; exact ⟨rfl, Nf, Kp, E_r0, F_depth_r0, F_length_r0⟩)) (by decide) (by decide)
theorem d4_0 : decode prog_86_method_2_code 0 = .ok (.aload_n 0, 1) := by decide +kernel
theorem d4_1 : decode prog_86_method_2_code 1 = .ok (.getfield 9, 3) := by decide +kernel
theorem d4_4 : decode prog_86_method_2_code 4 = .ok (.sipush 256, 3) := by decide +kernel
theorem d4_7 : decode prog_86_method_2_code 7 = .ok (.if_icmp .gt 18, 3) := by decide +kernel
theorem d4_10 : decode prog_86_method_2_code 10 = .ok (.aload_n 0, 1) := by decide +kernel
theorem d4_11 : decode prog_86_method_2_code 11 = .ok (.getfield 15, 3) := by decide +kernel
theorem d4_14 : decode prog_86_method_2_code 14 = .ok (.ldc2_w 21, 3) := by decide +kernel
theorem d4_17 : decode prog_86_method_2_code 17 = .ok (.lcmp, 1) := by decide +kernel
theorem d4_18 : decode prog_86_method_2_code 18 = .ok (.ifCond .gt 7, 3) := by decide +kernel
theorem d4_21 : decode prog_86_method_2_code 21 = .ok (.iconst 1, 1) := by decide +kernel
theorem d4_22 : decode prog_86_method_2_code 22 = .ok (.goto 4, 3) := by decide +kernel
theorem d4_25 : decode prog_86_method_2_code 25 = .ok (.iconst 0, 1) := by decide +kernel
theorem d4_26 : decode prog_86_method_2_code 26 = .ok (.ireturn, 1) := by decide +kernel
theorem ef_rmW (m : MethodId) (x0 : Addr) : entryFrame m #[(.ref x0)] 1 = mkF m 0 #[.val (.ref x0)] [] := by first | (simp [entryFrame, mkF, argsToLocals, Value.category]; done) | rfl
def Q_rmW (Z : State) (r0 : Addr) (i1 : Int32) (j2 : Int64) (h0 : Heap) (n0 : Nat) (v : Option Value) (h : Heap) (L : List Loc) : Prop := v = some (.int (own_wr i1 j2)) ∧ Fr n0 L ∧ h = h0
set_option maxRecDepth 65536 in
set_option maxHeartbeats 40000000 in
theorem rmW (l : Launch) (Z : State) (a0 : Array Value) (hw : ∀ d ∈ tables_1, d.before a0 Z = true) (ws : List Jvm.Cond) (r0 : Addr) (i1 : Int32) (j2 : Int64) (h0 : Heap) (n0 : Nat) (Z0 : n0 ≤ h0.size) (F_depth_r0 : Fld Z h0 r0 "com/example/bivista/bivista/query/QueryWriter$Measure" "depth" "I" (.int i1)) (F_length_r0 : Fld Z h0 r0 "com/example/bivista/bivista/query/QueryWriter$Measure" "length" "J" (.long j2)) :
    MetFree l (⟨"com/example/bivista/bivista/query/QueryWriter$Measure", "writable", "()Z"⟩ : MethodName) (head1 (Jvm.Cond.code (⟨"com/example/bivista/bivista/query/QueryWriter$Measure", "writable", "()Z"⟩ : MethodName) prog_86_method_2_code 1 (some .boolean) :: ws) ({ frames := 0, cells := 0, slots := 0, locals := 0 } : Room)) (fun a U => a = #[(.ref r0)] ∧ Z.Warmed39 U.vm ∧ U.heap = h0) (fun _ _ _ _ _ => True) (fun _ U o U' => ∃ v L, o = .returned v ∧ Q_rmW Z r0 i1 j2 h0 n0 v U'.heap L ∧ FrameEnd U o U' L ({ frames := 0, cells := 0, slots := 0, locals := 0 } : Room).cells ({ frames := 0, cells := 0, slots := 0, locals := 0 } : Room).slots) := by
  refine MetFree.of_bodySF (plainFor_of_name own_pn1) hisR ?_
  intro p e s m args below meth c s₁ Bd hml0 hP hK
  obtain ⟨rfl, hZ, hh⟩ := hP
  have hx := Bd.exec
  have hby := Bd.bytes
  have hml : c.maxLocals = 1 := hml0
  have hown : s.vm.findClass "com/example/bivista/bivista/query/QueryWriter$Measure" = some m.cls := findClass_of_methodNamed Bd.named
  have hnm := (name_of_methodNamed Bd.named Bd.method).1
  have X0 : Stand p l e ({ frames := 0, cells := 0, slots := 0, locals := 0 } : Room) s m #[(.ref r0)] below meth c s₁ [] 0 0 := Stand.of_body Bd
  have e0 : s₁.heap = h0 := by rw [← hh, Bd.state]; rfl
  show own_Go p e below (s₁.setTop (entryFrame m #[(.ref r0)] 1)) (fun t o => ∃ v L, o = .returned v ∧ Q_rmW Z r0 i1 j2 h0 n0 v t.heap L ∧ FrameEnd s o t L ({ frames := 0, cells := 0, slots := 0, locals := 0 } : Room).cells ({ frames := 0, cells := 0, slots := 0, locals := 0 } : Room).slots)
  refine own_by (B := s₁.setTop (mkF m 0 #[.val (.ref r0)] [])) (fun t k => castTop (ef_rmW m r0) k) ?_
  have Nf := Fr.nil n0
  have Zs := Z0
  refine own_by (B := s₁.setTop (mkF m 1 #[.val (.ref r0)] [(.ref r0)])) (fun t k => XS.aloadN X0.here hx rfl (hb hby d4_0) rfl rfl k) ?_
  obtain ⟨T1, X1, e1, st1⟩ := getF X0 hx hZ hown (host := "") (Or.inl (hw _ (List.mem_of_getElem? (i := 14) rfl))) Via.refl e0 F_depth_r0 (g := (mkF m 1 #[.val (.ref r0)] [(.ref r0)])) rfl rfl (hb hby d4_1)
  refine own_by (B := T1.setTop (mkF m 4 #[.val (.ref r0)] [(.int i1)])) st1 ?_
  refine own_by (B := T1.setTop (mkF m 7 #[.val (.ref r0)] [(.int (256 : Int32)), (.int i1)])) (fun t k => XS.sipush X1.here hx rfl (hb hby d4_4) k) ?_
  by_cases hc7 : (256 : Int32) < i1
  · refine own_by (B := T1.setTop (mkF m 25 #[.val (.ref r0)] [])) (fun t k => XS.icmpYes X1.here hx rfl (pc0 := 7) (pc' := 25) rfl (hb hby d4_7) rfl (tlt hc7).2.2.1 (by decide) (by decide) k) ?_
    refine own_by (B := T1.setTop (mkF m 26 #[.val (.ref r0)] [(.int (0 : Int32))])) (fun t k => XS.iconst X1.here hx rfl (hb hby d4_25) k) ?_
    exact own_end X1 (v := some (.int (0 : Int32))) (fun h => by rw [Bd.returns] at h; cases h) (BodyLoose.notSynchronized Bd) (Q := (Q_rmW Z r0 i1 j2 h0 n0)) (fun fs hr => retN X1 hx (t := .boolean) Bd.returns (by simp) (hb hby d4_26) hr) (show (Q_rmW Z r0 i1 j2 h0 n0) _ T1.heap _ from (by rw [e1]; exact ⟨congrArg (fun z => some (Value.int z)) (by simp [own_wr, nar, hc7]), Nf, rfl⟩)) (by decide) (by decide)
  · refine own_by (B := T1.setTop (mkF m 10 #[.val (.ref r0)] [])) (fun t k => XS.icmpNo X1.here hx rfl (hb hby d4_7) rfl (flt hc7).2.2.1 k) ?_
    refine own_by (B := T1.setTop (mkF m 11 #[.val (.ref r0)] [(.ref r0)])) (fun t k => XS.aloadN X1.here hx rfl (hb hby d4_10) rfl rfl k) ?_
    obtain ⟨T2, X2, e2, st2⟩ := getF X1 hx hZ hown (host := "") (Or.inl (hw _ (List.mem_of_getElem? (i := 16) rfl))) Via.refl e1 F_length_r0 (g := (mkF m 11 #[.val (.ref r0)] [(.ref r0)])) rfl rfl (hb hby d4_11)
    refine own_by (B := T2.setTop (mkF m 14 #[.val (.ref r0)] [(.long j2)])) st2 ?_
    refine own_by (B := T2.setTop (mkF m 17 #[.val (.ref r0)] [(.long (2147483647 : Int64)), (.long j2)])) (fun t k => X2.ldc2Long hx hown (mvT hZ (hw _ (List.mem_of_getElem? (i := 24) rfl))) (g := (mkF m 14 #[.val (.ref r0)] [(.long j2)])) rfl (hb hby d4_14) _ k) ?_
    refine own_by (B := T2.setTop (mkF m 18 #[.val (.ref r0)] [(.int (lcmpW j2 (2147483647 : Int64)))])) (fun t k => XS.lcmp X2.here hx rfl (hb hby d4_17) rfl k) ?_
    by_cases hc18 : (0 : Int32) < (lcmpW j2 (2147483647 : Int64))
    · refine own_by (B := T2.setTop (mkF m 25 #[.val (.ref r0)] [])) (fun t k => XS.ifYes X2.here hx rfl (pc0 := 18) (pc' := 25) rfl (hb hby d4_18) rfl ((if0 _ _).trans (tlt hc18).2.2.1) (by decide) (by decide) k) ?_
      refine own_by (B := T2.setTop (mkF m 26 #[.val (.ref r0)] [(.int (0 : Int32))])) (fun t k => XS.iconst X2.here hx rfl (hb hby d4_25) k) ?_
      exact own_end X2 (v := some (.int (0 : Int32))) (fun h => by rw [Bd.returns] at h; cases h) (BodyLoose.notSynchronized Bd) (Q := (Q_rmW Z r0 i1 j2 h0 n0)) (fun fs hr => retN X2 hx (t := .boolean) Bd.returns (by simp) (hb hby d4_26) hr) (show (Q_rmW Z r0 i1 j2 h0 n0) _ T2.heap _ from (by rw [e2]; exact ⟨congrArg (fun z => some (Value.int z)) (by simp [own_wr, nar, hc7, hc18]), Nf, rfl⟩)) (by decide) (by decide)
    · refine own_by (B := T2.setTop (mkF m 21 #[.val (.ref r0)] [])) (fun t k => XS.ifNo X2.here hx rfl (hb hby d4_18) rfl ((if0 _ _).trans (flt hc18).2.2.1) k) ?_
      refine own_by (B := T2.setTop (mkF m 22 #[.val (.ref r0)] [(.int (1 : Int32))])) (fun t k => XS.iconst X2.here hx rfl (hb hby d4_21) k) ?_
      refine own_by (B := T2.setTop (mkF m 26 #[.val (.ref r0)] [(.int (1 : Int32))])) (fun t k => XS.goto X2.here hx rfl (pc0 := 22) (pc' := 26) rfl (hb hby d4_22) (by decide) (by decide) k) ?_
      exact own_end X2 (v := some (.int (1 : Int32))) (fun h => by rw [Bd.returns] at h; cases h) (BodyLoose.notSynchronized Bd) (Q := (Q_rmW Z r0 i1 j2 h0 n0)) (fun fs hr => retN X2 hx (t := .boolean) Bd.returns (by simp) (hb hby d4_26) hr) (show (Q_rmW Z r0 i1 j2 h0 n0) _ T2.heap _ from (by rw [e2]; exact ⟨congrArg (fun z => some (Value.int z)) (by simp [own_wr, nar, hc7, hc18]), Nf, rfl⟩)) (by decide) (by decide)
theorem own_pd1 : parseMethodDescriptor "(IJ)V" = some ⟨[.int, .long], none⟩ := by decide +kernel
theorem own_pd2 : parseMethodDescriptor "()Z" = some ⟨[], some .boolean⟩ := by decide +kernel
theorem own_pn2 : plainName "com/example/bivista/bivista/query/MeasureWritablePinLaw" = true := by first | (simp [plainName, overriddenIn]; done) | decide +kernel
theorem ef_rm0 (m : MethodId) (x0 : Int32) (x1 : Int64) (x2 : Int32) : entryFrame m #[(.int x0), (.long x1), (.int x2)] maxLocals = mkF m 0 #[.val (.int x0), .val (.long x1), .second, .val (.int x2), .unset, .unset, .unset, .unset, .unset] [] := by first | (simp [entryFrame, mkF, argsToLocals, Value.category, maxLocals]; done) | rfl
def Q_rm0 (Z : State) (i0 : Int32) (j1 : Int64) (i2 : Int32) (h0 : Heap) (n0 : Nat) (v : Option Value) (h : Heap) (L : List Loc) : Prop := v = some (.int 1) ∧ Fr n0 L
set_option maxRecDepth 65536 in
set_option maxHeartbeats 40000000 in
theorem rm0 (l : Launch) (Z : State) (a0 : Array Value) (hw : ∀ d ∈ tables_1, d.before a0 Z = true) (ws : List Jvm.Cond) (i0 : Int32) (j1 : Int64) (i2 : Int32) (h0 : Heap) (n0 : Nat) (Z0 : n0 ≤ h0.size)  :
    MetFree l x (head1 (Jvm.Cond.code x code maxLocals ret :: ws) room_1) (fun a U => a = #[(.int i0), (.long j1), (.int i2)] ∧ Z.Warmed39 U.vm ∧ U.heap = h0) (fun _ _ _ _ _ => True) (fun _ U o U' => ∃ v L, o = .returned v ∧ Q_rm0 Z i0 j1 i2 h0 n0 v U'.heap L ∧ FrameEnd U o U' L room_1.cells room_1.slots) := by
  refine MetFree.of_bodySF (plainFor_of_name own_pn2) hisR ?_
  intro p e s m args below meth c s₁ Bd hml0 hP hK
  obtain ⟨rfl, hZ, hh⟩ := hP
  have hx := Bd.exec
  have hby := Bd.bytes
  have hml : c.maxLocals = 9 := hml0
  have hown : s.vm.findClass "com/example/bivista/bivista/query/MeasureWritablePinLaw" = some m.cls := findClass_of_methodNamed Bd.named
  have hnm := (name_of_methodNamed Bd.named Bd.method).1
  have X0 : Stand p l e room_1 s m #[(.int i0), (.long j1), (.int i2)] below meth c s₁ [] 0 0 := Stand.of_body Bd
  have e0 : s₁.heap = h0 := by rw [← hh, Bd.state]; rfl
  show own_Go p e below (s₁.setTop (entryFrame m #[(.int i0), (.long j1), (.int i2)] maxLocals)) (fun t o => ∃ v L, o = .returned v ∧ Q_rm0 Z i0 j1 i2 h0 n0 v t.heap L ∧ FrameEnd s o t L room_1.cells room_1.slots)
  refine own_by (B := s₁.setTop (mkF m 0 #[.val (.int i0), .val (.long j1), .second, .val (.int i2), .unset, .unset, .unset, .unset, .unset] [])) (fun t k => castTop (ef_rm0 m i0 j1 i2) k) ?_
  have Nf := Fr.nil n0
  have Zs := Z0
  have J40 : ∀ (d : Int32) (q : Int64), own_Go p e below (s₁.setTop (mkF m 40 #[.val (.int i0), .val (.long j1), .second, .val (.int i2), .val (.int d), .val (.long q), .second, .unset, .unset] [])) (fun t o => ∃ v L, o = .returned v ∧ Q_rm0 Z i0 j1 i2 h0 n0 v t.heap L ∧ FrameEnd s o t L room_1.cells room_1.slots) := by
    intro d q
    obtain ⟨T1, h1, X1, e1, E1, A1, D1, -, st1⟩ := newO X0 hx hZ hown (hw _ (List.mem_of_getElem? (i := 0) rfl)) (hw _ (List.mem_of_getElem? (i := 1) rfl)) (hw _ (List.mem_of_getElem? (i := 2) rfl)) e0 (g := (mkF m 40 #[.val (.int i0), .val (.long j1), .second, .val (.int i2), .val (.int d), .val (.long q), .second, .unset, .unset] [])) rfl (hb hby at_40) (by decide) (by decide)
    obtain ⟨b1, gq1⟩ : ∃ z, z = h0.size := ⟨_, rfl⟩
    rw [← gq1] at A1 D1 st1
    have g_b1 : n0 ≤ b1 := Nat.le_trans Zs (Nat.le_of_eq gq1.symm)
    have Zs := Nat.le_trans Zs E1.1
    have E_b1 := A1
    have F_depth_b1 : Fld Z h1 b1 "com/example/bivista/bivista/query/QueryWriter$Measure" "depth" "I" (.int (0 : Int32)) := D1 (Or.inr (hw _ (List.mem_of_getElem? (i := 15) rfl))) (ty := .int) (by decide)
    have F_length_b1 : Fld Z h1 b1 "com/example/bivista/bivista/query/QueryWriter$Measure" "length" "J" (.long (0 : Int64)) := D1 (Or.inr (hw _ (List.mem_of_getElem? (i := 17) rfl))) (ty := .long) (by decide)
    refine own_by (B := T1.setTop (mkF m 43 #[.val (.int i0), .val (.long j1), .second, .val (.int i2), .val (.int d), .val (.long q), .second, .unset, .unset] [(.ref b1)])) st1 ?_
    refine own_by (B := T1.setTop (mkF m 44 #[.val (.int i0), .val (.long j1), .second, .val (.int i2), .val (.int d), .val (.long q), .second, .unset, .unset] [(.ref b1), (.ref b1)])) (fun t k => XS.dup X1.here hx rfl (hb hby at_43) rfl rfl k) ?_
    refine own_by (B := T1.setTop (mkF m 46 #[.val (.int i0), .val (.long j1), .second, .val (.int i2), .val (.int d), .val (.long q), .second, .unset, .unset] [(.int d), (.ref b1), (.ref b1)])) (fun t k => XS.iload X1.here hx rfl (hb hby at_44) rfl k) ?_
    refine own_by (B := T1.setTop (mkF m 48 #[.val (.int i0), .val (.long j1), .second, .val (.int i2), .val (.int d), .val (.long q), .second, .unset, .unset] [(.long q), (.int d), (.ref b1), (.ref b1)])) (fun t k => XS.lload X1.here hx rfl (hb hby at_46) rfl k) ?_
    obtain ⟨_, _, ⟨T2, L2, k2, n2⟩, -, X2, ⟨Lc2, hQ2, l2, y2, z2⟩, st2⟩ := X1.specialBack hx (y := (⟨"com/example/bivista/bivista/query/QueryWriter$Measure", "<init>", "(IJ)V"⟩ : MethodName)) rfl hown (mvT hZ (hw _ (List.mem_of_getElem? (i := 3) rfl))) (mvT hZ (hw _ (List.mem_of_getElem? (i := 4) rfl))) (mvT hZ (hw _ (List.mem_of_getElem? (i := 5) rfl))) (by decide) (backOf (W := 1) (rmI l Z a0 hw [] b1 d q h1 n0 Zs E_b1 F_depth_b1 F_length_b1 g_b1) hZ (hw _ (List.mem_of_getElem? (i := 5) rfl)) (hw _ (List.mem_of_getElem? (i := 2) rfl)) (by decide) (by decide)) (g := (mkF m 48 #[.val (.int i0), .val (.long j1), .second, .val (.int i2), .val (.int d), .val (.long q), .second, .unset, .unset] [(.long q), (.int d), (.ref b1), (.ref b1)])) rfl (by rw [hml]; rfl) (Steps.refl _) (a := b1) (argsL := [(.int d), (.long q)]) (rest := [(.ref b1)]) (lenOf own_pd1 rfl) rfl (by show 2 * 0 + _ ≤ _; exact Nat.le_of_eq rfl) (hb hby at_48) (fun _ _ => ⟨rfl, e1, (by decide : 1 + 0 ≤ _), (by decide : 2 + 0 ≤ _)⟩)
    dsimp only [Pt.U, Pt.locs, Pt.cells, Pt.slots] at X2 l2 y2 z2 st2 hQ2
    subst l2 y2 z2
    obtain ⟨rfl, Nq2, Kc2, Ec2, Fc2, Fd2⟩ := hQ2
    have Nf := Fr.app Nf Nq2
    have E_b1 := E_b1.keep Kc2
    have Zs := Nat.le_trans Zs Kc2.1
    have F_depth_b1 := Fc2
    have F_length_b1 := Fd2
    refine own_by (B := T2.setTop (mkF m 51 #[.val (.int i0), .val (.long j1), .second, .val (.int i2), .val (.int d), .val (.long q), .second, .unset, .unset] [(.ref b1)])) (fun t k => st2.trans k) ?_
    refine own_by (B := T2.setTop (mkF m 53 #[.val (.int i0), .val (.long j1), .second, .val (.int i2), .val (.int d), .val (.long q), .second, .val (.ref b1), .unset] [])) (fun t k => XS.astore X2.here hx rfl (hb hby at_51) rfl rfl (l' := #[.val (.int i0), .val (.long j1), .second, .val (.int i2), .val (.int d), .val (.long q), .second, .val (.ref b1), .unset]) rfl k) ?_
    refine own_by (B := T2.setTop (mkF m 55 #[.val (.int i0), .val (.long j1), .second, .val (.int i2), .val (.int d), .val (.long q), .second, .val (.ref b1), .unset] [(.int d)])) (fun t k => XS.iload X2.here hx rfl (hb hby at_53) rfl k) ?_
    refine own_by (B := T2.setTop (mkF m 58 #[.val (.int i0), .val (.long j1), .second, .val (.int i2), .val (.int d), .val (.long q), .second, .val (.ref b1), .unset] [(.int (256 : Int32)), (.int d)])) (fun t k => XS.sipush X2.here hx rfl (hb hby at_55) k) ?_
    by_cases hc58 : (256 : Int32) < d
    · refine own_by (B := T2.setTop (mkF m 61 #[.val (.int i0), .val (.long j1), .second, .val (.int i2), .val (.int d), .val (.long q), .second, .val (.ref b1), .unset] [])) (fun t k => XS.icmpNo X2.here hx rfl (hb hby at_58) rfl (tlt hc58).2.2.2 k) ?_
      refine own_by (B := T2.setTop (mkF m 62 #[.val (.int i0), .val (.long j1), .second, .val (.int i2), .val (.int d), .val (.long q), .second, .val (.ref b1), .unset] [(.int (0 : Int32))])) (fun t k => XS.iconst X2.here hx rfl (hb hby at_61) k) ?_
      refine own_by (B := T2.setTop (mkF m 64 #[.val (.int i0), .val (.long j1), .second, .val (.int i2), .val (.int d), .val (.long q), .second, .val (.ref b1), .val (.int (0 : Int32))] [])) (fun t k => XS.istore X2.here hx rfl (hb hby at_62) rfl (l' := #[.val (.int i0), .val (.long j1), .second, .val (.int i2), .val (.int d), .val (.long q), .second, .val (.ref b1), .val (.int (0 : Int32))]) rfl k) ?_
      refine own_by (B := T2.setTop (mkF m 85 #[.val (.int i0), .val (.long j1), .second, .val (.int i2), .val (.int d), .val (.long q), .second, .val (.ref b1), .val (.int (0 : Int32))] [])) (fun t k => XS.goto X2.here hx rfl (pc0 := 64) (pc' := 85) rfl (hb hby at_64) (by decide) (by decide) k) ?_
      refine own_by (B := T2.setTop (mkF m 87 #[.val (.int i0), .val (.long j1), .second, .val (.int i2), .val (.int d), .val (.long q), .second, .val (.ref b1), .val (.int (0 : Int32))] [(.ref b1)])) (fun t k => XS.aload X2.here hx rfl (hb hby at_85) rfl rfl k) ?_
      obtain ⟨cq3, kq3, q3a, q3b, q3c⟩ := isOf hZ rfl E_b1
      obtain ⟨_, _, ⟨T3, L3, k3, n3⟩, -, X3, ⟨Lc3, hQ3, l3, y3, z3⟩, st3⟩ := X2.virtualBack hx (y := (⟨"com/example/bivista/bivista/query/QueryWriter$Measure", "writable", "()Z"⟩ : MethodName)) (z := (⟨"com/example/bivista/bivista/query/QueryWriter$Measure", "writable", "()Z"⟩ : MethodName)) hown (mvT hZ (hw _ (List.mem_of_getElem? (i := 19) rfl))) (mvT hZ (hw _ (List.mem_of_getElem? (i := 20) rfl))) (notFace_of_selects (args := #[]) (mvT hZ (hw _ (List.mem_of_getElem? (i := 22) rfl)))) (mvT hZ (hw _ (List.mem_of_getElem? (i := 22) rfl))) (mvT hZ (hw _ (List.mem_of_getElem? (i := 21) rfl))) (by decide) (backOf (W := 0) (rmW l Z a0 hw [] b1 d q T2.heap n0 Zs F_depth_b1 F_length_b1) hZ (hw _ (List.mem_of_getElem? (i := 23) rfl)) (hw _ (List.mem_of_getElem? (i := 2) rfl)) (by decide) (by decide)) q3a q3c (g := (mkF m 87 #[.val (.int i0), .val (.long j1), .second, .val (.int i2), .val (.int d), .val (.long q), .second, .val (.ref b1), .val (.int (0 : Int32))] [(.ref b1)])) rfl (by rw [hml]; rfl) (Steps.refl _) (argsL := []) (rest := []) (lenOf own_pd2 rfl) rfl (by show 2 * 0 + _ ≤ _; exact Nat.le_of_eq rfl) (hb hby at_87) (fun _ _ => ⟨rfl, rfl, (by decide : 1 + 0 ≤ _), (by decide : 2 + 0 ≤ _)⟩)
      dsimp only [Pt.U, Pt.locs, Pt.cells, Pt.slots] at X3 l3 y3 z3 st3 hQ3
      subst l3 y3 z3
      obtain ⟨rfl, Nq3, hp3⟩ := hQ3
      have Nf := Fr.app Nf Nq3
      have ec3 : T3.heap = T2.heap := hp3
      refine own_by (B := T3.setTop (mkF m 90 #[.val (.int i0), .val (.long j1), .second, .val (.int i2), .val (.int d), .val (.long q), .second, .val (.ref b1), .val (.int (0 : Int32))] [(.int (own_wr d q))])) (fun t k => st3.trans k) ?_
      refine own_by (B := T3.setTop (mkF m 92 #[.val (.int i0), .val (.long j1), .second, .val (.int i2), .val (.int d), .val (.long q), .second, .val (.ref b1), .val (.int (0 : Int32))] [(.int (0 : Int32)), (.int (own_wr d q))])) (fun t k => XS.iload X3.here hx rfl (hb hby at_90) rfl k) ?_
      have hv : own_wr d q = (0 : Int32) := by simp [own_wr, hc58]
      refine own_by (B := T3.setTop (mkF m 95 #[.val (.int i0), .val (.long j1), .second, .val (.int i2), .val (.int d), .val (.long q), .second, .val (.ref b1), .val (.int (0 : Int32))] [])) (fun t k => XS.icmpNo X3.here hx rfl (hb hby at_92) rfl (teq hv).2 k) ?_
      refine own_by (B := T3.setTop (mkF m 96 #[.val (.int i0), .val (.long j1), .second, .val (.int i2), .val (.int d), .val (.long q), .second, .val (.ref b1), .val (.int (0 : Int32))] [(.int (1 : Int32))])) (fun t k => XS.iconst X3.here hx rfl (hb hby at_95) k) ?_
      refine own_by (B := T3.setTop (mkF m 100 #[.val (.int i0), .val (.long j1), .second, .val (.int i2), .val (.int d), .val (.long q), .second, .val (.ref b1), .val (.int (0 : Int32))] [(.int (1 : Int32))])) (fun t k => XS.goto X3.here hx rfl (pc0 := 96) (pc' := 100) rfl (hb hby at_96) (by decide) (by decide) k) ?_
      exact own_end X3 (v := some (.int (1 : Int32))) (fun h => by rw [Bd.returns] at h; cases h) (BodyLoose.notSynchronized Bd) (Q := (Q_rm0 Z i0 j1 i2 h0 n0)) (fun fs hr => retN X3 hx (t := .boolean) Bd.returns (by simp) (hb hby at_100) hr) (show (Q_rm0 Z i0 j1 i2 h0 n0) _ T3.heap _ from (by rw [ec3]; exact ⟨rfl, Nf⟩)) (by decide) (by decide)
    · refine own_by (B := T2.setTop (mkF m 67 #[.val (.int i0), .val (.long j1), .second, .val (.int i2), .val (.int d), .val (.long q), .second, .val (.ref b1), .unset] [])) (fun t k => XS.icmpYes X2.here hx rfl (pc0 := 58) (pc' := 67) rfl (hb hby at_58) rfl (flt hc58).2.2.2 (by decide) (by decide) k) ?_
      refine own_by (B := T2.setTop (mkF m 69 #[.val (.int i0), .val (.long j1), .second, .val (.int i2), .val (.int d), .val (.long q), .second, .val (.ref b1), .unset] [(.long q)])) (fun t k => XS.lload X2.here hx rfl (hb hby at_67) rfl k) ?_
      refine own_by (B := T2.setTop (mkF m 72 #[.val (.int i0), .val (.long j1), .second, .val (.int i2), .val (.int d), .val (.long q), .second, .val (.ref b1), .unset] [(.long (2147483647 : Int64)), (.long q)])) (fun t k => X2.ldc2Long hx hown (mvT hZ (hw _ (List.mem_of_getElem? (i := 18) rfl))) (g := (mkF m 69 #[.val (.int i0), .val (.long j1), .second, .val (.int i2), .val (.int d), .val (.long q), .second, .val (.ref b1), .unset] [(.long q)])) rfl (hb hby at_69) _ k) ?_
      refine own_by (B := T2.setTop (mkF m 73 #[.val (.int i0), .val (.long j1), .second, .val (.int i2), .val (.int d), .val (.long q), .second, .val (.ref b1), .unset] [(.int (lcmpW q (2147483647 : Int64)))])) (fun t k => XS.lcmp X2.here hx rfl (hb hby at_72) rfl k) ?_
      by_cases hc73 : (0 : Int32) < (lcmpW q (2147483647 : Int64))
      · refine own_by (B := T2.setTop (mkF m 76 #[.val (.int i0), .val (.long j1), .second, .val (.int i2), .val (.int d), .val (.long q), .second, .val (.ref b1), .unset] [])) (fun t k => XS.ifNo X2.here hx rfl (hb hby at_73) rfl ((if0 _ _).trans (tlt hc73).2.2.2) k) ?_
        refine own_by (B := T2.setTop (mkF m 77 #[.val (.int i0), .val (.long j1), .second, .val (.int i2), .val (.int d), .val (.long q), .second, .val (.ref b1), .unset] [(.int (0 : Int32))])) (fun t k => XS.iconst X2.here hx rfl (hb hby at_76) k) ?_
        refine own_by (B := T2.setTop (mkF m 79 #[.val (.int i0), .val (.long j1), .second, .val (.int i2), .val (.int d), .val (.long q), .second, .val (.ref b1), .val (.int (0 : Int32))] [])) (fun t k => XS.istore X2.here hx rfl (hb hby at_77) rfl (l' := #[.val (.int i0), .val (.long j1), .second, .val (.int i2), .val (.int d), .val (.long q), .second, .val (.ref b1), .val (.int (0 : Int32))]) rfl k) ?_
        refine own_by (B := T2.setTop (mkF m 85 #[.val (.int i0), .val (.long j1), .second, .val (.int i2), .val (.int d), .val (.long q), .second, .val (.ref b1), .val (.int (0 : Int32))] [])) (fun t k => XS.goto X2.here hx rfl (pc0 := 79) (pc' := 85) rfl (hb hby at_79) (by decide) (by decide) k) ?_
        refine own_by (B := T2.setTop (mkF m 87 #[.val (.int i0), .val (.long j1), .second, .val (.int i2), .val (.int d), .val (.long q), .second, .val (.ref b1), .val (.int (0 : Int32))] [(.ref b1)])) (fun t k => XS.aload X2.here hx rfl (hb hby at_85) rfl rfl k) ?_
        obtain ⟨cq4, kq4, q4a, q4b, q4c⟩ := isOf hZ rfl E_b1
        obtain ⟨_, _, ⟨T4, L4, k4, n4⟩, -, X4, ⟨Lc4, hQ4, l4, y4, z4⟩, st4⟩ := X2.virtualBack hx (y := (⟨"com/example/bivista/bivista/query/QueryWriter$Measure", "writable", "()Z"⟩ : MethodName)) (z := (⟨"com/example/bivista/bivista/query/QueryWriter$Measure", "writable", "()Z"⟩ : MethodName)) hown (mvT hZ (hw _ (List.mem_of_getElem? (i := 19) rfl))) (mvT hZ (hw _ (List.mem_of_getElem? (i := 20) rfl))) (notFace_of_selects (args := #[]) (mvT hZ (hw _ (List.mem_of_getElem? (i := 22) rfl)))) (mvT hZ (hw _ (List.mem_of_getElem? (i := 22) rfl))) (mvT hZ (hw _ (List.mem_of_getElem? (i := 21) rfl))) (by decide) (backOf (W := 0) (rmW l Z a0 hw [] b1 d q T2.heap n0 Zs F_depth_b1 F_length_b1) hZ (hw _ (List.mem_of_getElem? (i := 23) rfl)) (hw _ (List.mem_of_getElem? (i := 2) rfl)) (by decide) (by decide)) q4a q4c (g := (mkF m 87 #[.val (.int i0), .val (.long j1), .second, .val (.int i2), .val (.int d), .val (.long q), .second, .val (.ref b1), .val (.int (0 : Int32))] [(.ref b1)])) rfl (by rw [hml]; rfl) (Steps.refl _) (argsL := []) (rest := []) (lenOf own_pd2 rfl) rfl (by show 2 * 0 + _ ≤ _; exact Nat.le_of_eq rfl) (hb hby at_87) (fun _ _ => ⟨rfl, rfl, (by decide : 1 + 0 ≤ _), (by decide : 2 + 0 ≤ _)⟩)
        dsimp only [Pt.U, Pt.locs, Pt.cells, Pt.slots] at X4 l4 y4 z4 st4 hQ4
        subst l4 y4 z4
        obtain ⟨rfl, Nq4, hp4⟩ := hQ4
        have Nf := Fr.app Nf Nq4
        have ec4 : T4.heap = T2.heap := hp4
        refine own_by (B := T4.setTop (mkF m 90 #[.val (.int i0), .val (.long j1), .second, .val (.int i2), .val (.int d), .val (.long q), .second, .val (.ref b1), .val (.int (0 : Int32))] [(.int (own_wr d q))])) (fun t k => st4.trans k) ?_
        refine own_by (B := T4.setTop (mkF m 92 #[.val (.int i0), .val (.long j1), .second, .val (.int i2), .val (.int d), .val (.long q), .second, .val (.ref b1), .val (.int (0 : Int32))] [(.int (0 : Int32)), (.int (own_wr d q))])) (fun t k => XS.iload X4.here hx rfl (hb hby at_90) rfl k) ?_
        have hv : own_wr d q = (0 : Int32) := by simp [own_wr, hc58, hc73]
        refine own_by (B := T4.setTop (mkF m 95 #[.val (.int i0), .val (.long j1), .second, .val (.int i2), .val (.int d), .val (.long q), .second, .val (.ref b1), .val (.int (0 : Int32))] [])) (fun t k => XS.icmpNo X4.here hx rfl (hb hby at_92) rfl (teq hv).2 k) ?_
        refine own_by (B := T4.setTop (mkF m 96 #[.val (.int i0), .val (.long j1), .second, .val (.int i2), .val (.int d), .val (.long q), .second, .val (.ref b1), .val (.int (0 : Int32))] [(.int (1 : Int32))])) (fun t k => XS.iconst X4.here hx rfl (hb hby at_95) k) ?_
        refine own_by (B := T4.setTop (mkF m 100 #[.val (.int i0), .val (.long j1), .second, .val (.int i2), .val (.int d), .val (.long q), .second, .val (.ref b1), .val (.int (0 : Int32))] [(.int (1 : Int32))])) (fun t k => XS.goto X4.here hx rfl (pc0 := 96) (pc' := 100) rfl (hb hby at_96) (by decide) (by decide) k) ?_
        exact own_end X4 (v := some (.int (1 : Int32))) (fun h => by rw [Bd.returns] at h; cases h) (BodyLoose.notSynchronized Bd) (Q := (Q_rm0 Z i0 j1 i2 h0 n0)) (fun fs hr => retN X4 hx (t := .boolean) Bd.returns (by simp) (hb hby at_100) hr) (show (Q_rm0 Z i0 j1 i2 h0 n0) _ T4.heap _ from (by rw [ec4]; exact ⟨rfl, Nf⟩)) (by decide) (by decide)
      · refine own_by (B := T2.setTop (mkF m 82 #[.val (.int i0), .val (.long j1), .second, .val (.int i2), .val (.int d), .val (.long q), .second, .val (.ref b1), .unset] [])) (fun t k => XS.ifYes X2.here hx rfl (pc0 := 73) (pc' := 82) rfl (hb hby at_73) rfl ((if0 _ _).trans (flt hc73).2.2.2) (by decide) (by decide) k) ?_
        refine own_by (B := T2.setTop (mkF m 83 #[.val (.int i0), .val (.long j1), .second, .val (.int i2), .val (.int d), .val (.long q), .second, .val (.ref b1), .unset] [(.int (1 : Int32))])) (fun t k => XS.iconst X2.here hx rfl (hb hby at_82) k) ?_
        refine own_by (B := T2.setTop (mkF m 85 #[.val (.int i0), .val (.long j1), .second, .val (.int i2), .val (.int d), .val (.long q), .second, .val (.ref b1), .val (.int (1 : Int32))] [])) (fun t k => XS.istore X2.here hx rfl (hb hby at_83) rfl (l' := #[.val (.int i0), .val (.long j1), .second, .val (.int i2), .val (.int d), .val (.long q), .second, .val (.ref b1), .val (.int (1 : Int32))]) rfl k) ?_
        refine own_by (B := T2.setTop (mkF m 87 #[.val (.int i0), .val (.long j1), .second, .val (.int i2), .val (.int d), .val (.long q), .second, .val (.ref b1), .val (.int (1 : Int32))] [(.ref b1)])) (fun t k => XS.aload X2.here hx rfl (hb hby at_85) rfl rfl k) ?_
        obtain ⟨cq5, kq5, q5a, q5b, q5c⟩ := isOf hZ rfl E_b1
        obtain ⟨_, _, ⟨T5, L5, k5, n5⟩, -, X5, ⟨Lc5, hQ5, l5, y5, z5⟩, st5⟩ := X2.virtualBack hx (y := (⟨"com/example/bivista/bivista/query/QueryWriter$Measure", "writable", "()Z"⟩ : MethodName)) (z := (⟨"com/example/bivista/bivista/query/QueryWriter$Measure", "writable", "()Z"⟩ : MethodName)) hown (mvT hZ (hw _ (List.mem_of_getElem? (i := 19) rfl))) (mvT hZ (hw _ (List.mem_of_getElem? (i := 20) rfl))) (notFace_of_selects (args := #[]) (mvT hZ (hw _ (List.mem_of_getElem? (i := 22) rfl)))) (mvT hZ (hw _ (List.mem_of_getElem? (i := 22) rfl))) (mvT hZ (hw _ (List.mem_of_getElem? (i := 21) rfl))) (by decide) (backOf (W := 0) (rmW l Z a0 hw [] b1 d q T2.heap n0 Zs F_depth_b1 F_length_b1) hZ (hw _ (List.mem_of_getElem? (i := 23) rfl)) (hw _ (List.mem_of_getElem? (i := 2) rfl)) (by decide) (by decide)) q5a q5c (g := (mkF m 87 #[.val (.int i0), .val (.long j1), .second, .val (.int i2), .val (.int d), .val (.long q), .second, .val (.ref b1), .val (.int (1 : Int32))] [(.ref b1)])) rfl (by rw [hml]; rfl) (Steps.refl _) (argsL := []) (rest := []) (lenOf own_pd2 rfl) rfl (by show 2 * 0 + _ ≤ _; exact Nat.le_of_eq rfl) (hb hby at_87) (fun _ _ => ⟨rfl, rfl, (by decide : 1 + 0 ≤ _), (by decide : 2 + 0 ≤ _)⟩)
        dsimp only [Pt.U, Pt.locs, Pt.cells, Pt.slots] at X5 l5 y5 z5 st5 hQ5
        subst l5 y5 z5
        obtain ⟨rfl, Nq5, hp5⟩ := hQ5
        have Nf := Fr.app Nf Nq5
        have ec5 : T5.heap = T2.heap := hp5
        refine own_by (B := T5.setTop (mkF m 90 #[.val (.int i0), .val (.long j1), .second, .val (.int i2), .val (.int d), .val (.long q), .second, .val (.ref b1), .val (.int (1 : Int32))] [(.int (own_wr d q))])) (fun t k => st5.trans k) ?_
        refine own_by (B := T5.setTop (mkF m 92 #[.val (.int i0), .val (.long j1), .second, .val (.int i2), .val (.int d), .val (.long q), .second, .val (.ref b1), .val (.int (1 : Int32))] [(.int (1 : Int32)), (.int (own_wr d q))])) (fun t k => XS.iload X5.here hx rfl (hb hby at_90) rfl k) ?_
        have hv : own_wr d q = (1 : Int32) := by simp [own_wr, hc58, hc73]
        refine own_by (B := T5.setTop (mkF m 95 #[.val (.int i0), .val (.long j1), .second, .val (.int i2), .val (.int d), .val (.long q), .second, .val (.ref b1), .val (.int (1 : Int32))] [])) (fun t k => XS.icmpNo X5.here hx rfl (hb hby at_92) rfl (teq hv).2 k) ?_
        refine own_by (B := T5.setTop (mkF m 96 #[.val (.int i0), .val (.long j1), .second, .val (.int i2), .val (.int d), .val (.long q), .second, .val (.ref b1), .val (.int (1 : Int32))] [(.int (1 : Int32))])) (fun t k => XS.iconst X5.here hx rfl (hb hby at_95) k) ?_
        refine own_by (B := T5.setTop (mkF m 100 #[.val (.int i0), .val (.long j1), .second, .val (.int i2), .val (.int d), .val (.long q), .second, .val (.ref b1), .val (.int (1 : Int32))] [(.int (1 : Int32))])) (fun t k => XS.goto X5.here hx rfl (pc0 := 96) (pc' := 100) rfl (hb hby at_96) (by decide) (by decide) k) ?_
        exact own_end X5 (v := some (.int (1 : Int32))) (fun h => by rw [Bd.returns] at h; cases h) (BodyLoose.notSynchronized Bd) (Q := (Q_rm0 Z i0 j1 i2 h0 n0)) (fun fs hr => retN X5 hx (t := .boolean) Bd.returns (by simp) (hb hby at_100) hr) (show (Q_rm0 Z i0 j1 i2 h0 n0) _ T5.heap _ from (by rw [ec5]; exact ⟨rfl, Nf⟩)) (by decide) (by decide)
  refine own_by (B := s₁.setTop (mkF m 1 #[.val (.int i0), .val (.long j1), .second, .val (.int i2), .unset, .unset, .unset, .unset, .unset] [(.int i2)])) (fun t k => XS.iloadN X0.here hx rfl (hb hby at_0) rfl k) ?_
  refine own_by (B := s₁.setTop (mkF m 2 #[.val (.int i0), .val (.long j1), .second, .val (.int i2), .unset, .unset, .unset, .unset, .unset] [(.int (1 : Int32)), (.int i2)])) (fun t k => XS.iconst X0.here hx rfl (hb hby at_1) k) ?_
  refine own_by (B := s₁.setTop (mkF m 3 #[.val (.int i0), .val (.long j1), .second, .val (.int i2), .unset, .unset, .unset, .unset, .unset] [(.int (i2 &&& (1 : Int32)))])) (fun t k => XS.iand X0.here hx rfl (hb hby at_2) rfl k) ?_
  by_cases hc3 : (i2 &&& (1 : Int32)) = (0 : Int32)
  · refine own_by (B := s₁.setTop (mkF m 16 #[.val (.int i0), .val (.long j1), .second, .val (.int i2), .unset, .unset, .unset, .unset, .unset] [])) (fun t k => XS.ifYes X0.here hx rfl (pc0 := 3) (pc' := 16) rfl (hb hby at_3) rfl ((if0 _ _).trans (teq hc3).1) (by decide) (by decide) k) ?_
    refine own_by (B := s₁.setTop (mkF m 17 #[.val (.int i0), .val (.long j1), .second, .val (.int i2), .unset, .unset, .unset, .unset, .unset] [(.int i0)])) (fun t k => XS.iloadN X0.here hx rfl (hb hby at_16) rfl k) ?_
    refine own_by (B := s₁.setTop (mkF m 19 #[.val (.int i0), .val (.long j1), .second, .val (.int i2), .val (.int i0), .unset, .unset, .unset, .unset] [])) (fun t k => XS.istore X0.here hx rfl (hb hby at_17) rfl (l' := #[.val (.int i0), .val (.long j1), .second, .val (.int i2), .val (.int i0), .unset, .unset, .unset, .unset]) rfl k) ?_
    refine own_by (B := s₁.setTop (mkF m 20 #[.val (.int i0), .val (.long j1), .second, .val (.int i2), .val (.int i0), .unset, .unset, .unset, .unset] [(.int i2)])) (fun t k => XS.iloadN X0.here hx rfl (hb hby at_19) rfl k) ?_
    refine own_by (B := s₁.setTop (mkF m 21 #[.val (.int i0), .val (.long j1), .second, .val (.int i2), .val (.int i0), .unset, .unset, .unset, .unset] [(.int (2 : Int32)), (.int i2)])) (fun t k => XS.iconst X0.here hx rfl (hb hby at_20) k) ?_
    refine own_by (B := s₁.setTop (mkF m 22 #[.val (.int i0), .val (.long j1), .second, .val (.int i2), .val (.int i0), .unset, .unset, .unset, .unset] [(.int (i2 &&& (2 : Int32)))])) (fun t k => XS.iand X0.here hx rfl (hb hby at_21) rfl k) ?_
    by_cases hc22 : (i2 &&& (2 : Int32)) = (0 : Int32)
    · refine own_by (B := s₁.setTop (mkF m 37 #[.val (.int i0), .val (.long j1), .second, .val (.int i2), .val (.int i0), .unset, .unset, .unset, .unset] [])) (fun t k => XS.ifYes X0.here hx rfl (pc0 := 22) (pc' := 37) rfl (hb hby at_22) rfl ((if0 _ _).trans (teq hc22).1) (by decide) (by decide) k) ?_
      refine own_by (B := s₁.setTop (mkF m 38 #[.val (.int i0), .val (.long j1), .second, .val (.int i2), .val (.int i0), .unset, .unset, .unset, .unset] [(.long j1)])) (fun t k => XS.lloadN X0.here hx rfl (hb hby at_37) rfl k) ?_
      refine own_by (B := s₁.setTop (mkF m 40 #[.val (.int i0), .val (.long j1), .second, .val (.int i2), .val (.int i0), .val (.long j1), .second, .unset, .unset] [])) (fun t k => XS.lstore X0.here hx rfl (hb hby at_38) rfl (l' := #[.val (.int i0), .val (.long j1), .second, .val (.int i2), .val (.int i0), .val (.long j1), .second, .unset, .unset]) rfl k) ?_
      exact J40 i0 j1
    · refine own_by (B := s₁.setTop (mkF m 25 #[.val (.int i0), .val (.long j1), .second, .val (.int i2), .val (.int i0), .unset, .unset, .unset, .unset] [])) (fun t k => XS.ifNo X0.here hx rfl (hb hby at_22) rfl ((if0 _ _).trans (feq hc22).1) k) ?_
      refine own_by (B := s₁.setTop (mkF m 28 #[.val (.int i0), .val (.long j1), .second, .val (.int i2), .val (.int i0), .unset, .unset, .unset, .unset] [(.long (2147483646 : Int64))])) (fun t k => X0.ldc2Long hx hown (mvT hZ (hw _ (List.mem_of_getElem? (i := 25) rfl))) (g := (mkF m 25 #[.val (.int i0), .val (.long j1), .second, .val (.int i2), .val (.int i0), .unset, .unset, .unset, .unset] [])) rfl (hb hby at_25) _ k) ?_
      refine own_by (B := s₁.setTop (mkF m 29 #[.val (.int i0), .val (.long j1), .second, .val (.int i2), .val (.int i0), .unset, .unset, .unset, .unset] [(.long j1), (.long (2147483646 : Int64))])) (fun t k => XS.lloadN X0.here hx rfl (hb hby at_28) rfl k) ?_
      refine own_by (B := s₁.setTop (mkF m 32 #[.val (.int i0), .val (.long j1), .second, .val (.int i2), .val (.int i0), .unset, .unset, .unset, .unset] [(.long (3 : Int64)), (.long j1), (.long (2147483646 : Int64))])) (fun t k => X0.ldc2Long hx hown (mvT hZ (hw _ (List.mem_of_getElem? (i := 26) rfl))) (g := (mkF m 29 #[.val (.int i0), .val (.long j1), .second, .val (.int i2), .val (.int i0), .unset, .unset, .unset, .unset] [(.long j1), (.long (2147483646 : Int64))])) rfl (hb hby at_29) _ k) ?_
      refine own_by (B := s₁.setTop (mkF m 33 #[.val (.int i0), .val (.long j1), .second, .val (.int i2), .val (.int i0), .unset, .unset, .unset, .unset] [(.long (j1 &&& (3 : Int64))), (.long (2147483646 : Int64))])) (fun t k => XS.land X0.here hx rfl (hb hby at_32) rfl k) ?_
      refine own_by (B := s₁.setTop (mkF m 34 #[.val (.int i0), .val (.long j1), .second, .val (.int i2), .val (.int i0), .unset, .unset, .unset, .unset] [(.long ((2147483646 : Int64) + (j1 &&& (3 : Int64))))])) (fun t k => XS.ladd X0.here hx rfl (hb hby at_33) rfl k) ?_
      refine own_by (B := s₁.setTop (mkF m 38 #[.val (.int i0), .val (.long j1), .second, .val (.int i2), .val (.int i0), .unset, .unset, .unset, .unset] [(.long ((2147483646 : Int64) + (j1 &&& (3 : Int64))))])) (fun t k => XS.goto X0.here hx rfl (pc0 := 34) (pc' := 38) rfl (hb hby at_34) (by decide) (by decide) k) ?_
      refine own_by (B := s₁.setTop (mkF m 40 #[.val (.int i0), .val (.long j1), .second, .val (.int i2), .val (.int i0), .val (.long ((2147483646 : Int64) + (j1 &&& (3 : Int64)))), .second, .unset, .unset] [])) (fun t k => XS.lstore X0.here hx rfl (hb hby at_38) rfl (l' := #[.val (.int i0), .val (.long j1), .second, .val (.int i2), .val (.int i0), .val (.long ((2147483646 : Int64) + (j1 &&& (3 : Int64)))), .second, .unset, .unset]) rfl k) ?_
      exact J40 i0 ((2147483646 : Int64) + (j1 &&& (3 : Int64)))
  · refine own_by (B := s₁.setTop (mkF m 6 #[.val (.int i0), .val (.long j1), .second, .val (.int i2), .unset, .unset, .unset, .unset, .unset] [])) (fun t k => XS.ifNo X0.here hx rfl (hb hby at_3) rfl ((if0 _ _).trans (feq hc3).1) k) ?_
    refine own_by (B := s₁.setTop (mkF m 9 #[.val (.int i0), .val (.long j1), .second, .val (.int i2), .unset, .unset, .unset, .unset, .unset] [(.int (254 : Int32))])) (fun t k => XS.sipush X0.here hx rfl (hb hby at_6) k) ?_
    refine own_by (B := s₁.setTop (mkF m 10 #[.val (.int i0), .val (.long j1), .second, .val (.int i2), .unset, .unset, .unset, .unset, .unset] [(.int i0), (.int (254 : Int32))])) (fun t k => XS.iloadN X0.here hx rfl (hb hby at_9) rfl k) ?_
    refine own_by (B := s₁.setTop (mkF m 11 #[.val (.int i0), .val (.long j1), .second, .val (.int i2), .unset, .unset, .unset, .unset, .unset] [(.int (3 : Int32)), (.int i0), (.int (254 : Int32))])) (fun t k => XS.iconst X0.here hx rfl (hb hby at_10) k) ?_
    refine own_by (B := s₁.setTop (mkF m 12 #[.val (.int i0), .val (.long j1), .second, .val (.int i2), .unset, .unset, .unset, .unset, .unset] [(.int (i0 &&& (3 : Int32))), (.int (254 : Int32))])) (fun t k => XS.iand X0.here hx rfl (hb hby at_11) rfl k) ?_
    refine own_by (B := s₁.setTop (mkF m 13 #[.val (.int i0), .val (.long j1), .second, .val (.int i2), .unset, .unset, .unset, .unset, .unset] [(.int ((254 : Int32) + (i0 &&& (3 : Int32))))])) (fun t k => XS.iadd X0.here hx rfl (hb hby at_12) rfl k) ?_
    refine own_by (B := s₁.setTop (mkF m 17 #[.val (.int i0), .val (.long j1), .second, .val (.int i2), .unset, .unset, .unset, .unset, .unset] [(.int ((254 : Int32) + (i0 &&& (3 : Int32))))])) (fun t k => XS.goto X0.here hx rfl (pc0 := 13) (pc' := 17) rfl (hb hby at_13) (by decide) (by decide) k) ?_
    refine own_by (B := s₁.setTop (mkF m 19 #[.val (.int i0), .val (.long j1), .second, .val (.int i2), .val (.int ((254 : Int32) + (i0 &&& (3 : Int32)))), .unset, .unset, .unset, .unset] [])) (fun t k => XS.istore X0.here hx rfl (hb hby at_17) rfl (l' := #[.val (.int i0), .val (.long j1), .second, .val (.int i2), .val (.int ((254 : Int32) + (i0 &&& (3 : Int32)))), .unset, .unset, .unset, .unset]) rfl k) ?_
    refine own_by (B := s₁.setTop (mkF m 20 #[.val (.int i0), .val (.long j1), .second, .val (.int i2), .val (.int ((254 : Int32) + (i0 &&& (3 : Int32)))), .unset, .unset, .unset, .unset] [(.int i2)])) (fun t k => XS.iloadN X0.here hx rfl (hb hby at_19) rfl k) ?_
    refine own_by (B := s₁.setTop (mkF m 21 #[.val (.int i0), .val (.long j1), .second, .val (.int i2), .val (.int ((254 : Int32) + (i0 &&& (3 : Int32)))), .unset, .unset, .unset, .unset] [(.int (2 : Int32)), (.int i2)])) (fun t k => XS.iconst X0.here hx rfl (hb hby at_20) k) ?_
    refine own_by (B := s₁.setTop (mkF m 22 #[.val (.int i0), .val (.long j1), .second, .val (.int i2), .val (.int ((254 : Int32) + (i0 &&& (3 : Int32)))), .unset, .unset, .unset, .unset] [(.int (i2 &&& (2 : Int32)))])) (fun t k => XS.iand X0.here hx rfl (hb hby at_21) rfl k) ?_
    by_cases hc22 : (i2 &&& (2 : Int32)) = (0 : Int32)
    · refine own_by (B := s₁.setTop (mkF m 37 #[.val (.int i0), .val (.long j1), .second, .val (.int i2), .val (.int ((254 : Int32) + (i0 &&& (3 : Int32)))), .unset, .unset, .unset, .unset] [])) (fun t k => XS.ifYes X0.here hx rfl (pc0 := 22) (pc' := 37) rfl (hb hby at_22) rfl ((if0 _ _).trans (teq hc22).1) (by decide) (by decide) k) ?_
      refine own_by (B := s₁.setTop (mkF m 38 #[.val (.int i0), .val (.long j1), .second, .val (.int i2), .val (.int ((254 : Int32) + (i0 &&& (3 : Int32)))), .unset, .unset, .unset, .unset] [(.long j1)])) (fun t k => XS.lloadN X0.here hx rfl (hb hby at_37) rfl k) ?_
      refine own_by (B := s₁.setTop (mkF m 40 #[.val (.int i0), .val (.long j1), .second, .val (.int i2), .val (.int ((254 : Int32) + (i0 &&& (3 : Int32)))), .val (.long j1), .second, .unset, .unset] [])) (fun t k => XS.lstore X0.here hx rfl (hb hby at_38) rfl (l' := #[.val (.int i0), .val (.long j1), .second, .val (.int i2), .val (.int ((254 : Int32) + (i0 &&& (3 : Int32)))), .val (.long j1), .second, .unset, .unset]) rfl k) ?_
      exact J40 ((254 : Int32) + (i0 &&& (3 : Int32))) j1
    · refine own_by (B := s₁.setTop (mkF m 25 #[.val (.int i0), .val (.long j1), .second, .val (.int i2), .val (.int ((254 : Int32) + (i0 &&& (3 : Int32)))), .unset, .unset, .unset, .unset] [])) (fun t k => XS.ifNo X0.here hx rfl (hb hby at_22) rfl ((if0 _ _).trans (feq hc22).1) k) ?_
      refine own_by (B := s₁.setTop (mkF m 28 #[.val (.int i0), .val (.long j1), .second, .val (.int i2), .val (.int ((254 : Int32) + (i0 &&& (3 : Int32)))), .unset, .unset, .unset, .unset] [(.long (2147483646 : Int64))])) (fun t k => X0.ldc2Long hx hown (mvT hZ (hw _ (List.mem_of_getElem? (i := 25) rfl))) (g := (mkF m 25 #[.val (.int i0), .val (.long j1), .second, .val (.int i2), .val (.int ((254 : Int32) + (i0 &&& (3 : Int32)))), .unset, .unset, .unset, .unset] [])) rfl (hb hby at_25) _ k) ?_
      refine own_by (B := s₁.setTop (mkF m 29 #[.val (.int i0), .val (.long j1), .second, .val (.int i2), .val (.int ((254 : Int32) + (i0 &&& (3 : Int32)))), .unset, .unset, .unset, .unset] [(.long j1), (.long (2147483646 : Int64))])) (fun t k => XS.lloadN X0.here hx rfl (hb hby at_28) rfl k) ?_
      refine own_by (B := s₁.setTop (mkF m 32 #[.val (.int i0), .val (.long j1), .second, .val (.int i2), .val (.int ((254 : Int32) + (i0 &&& (3 : Int32)))), .unset, .unset, .unset, .unset] [(.long (3 : Int64)), (.long j1), (.long (2147483646 : Int64))])) (fun t k => X0.ldc2Long hx hown (mvT hZ (hw _ (List.mem_of_getElem? (i := 26) rfl))) (g := (mkF m 29 #[.val (.int i0), .val (.long j1), .second, .val (.int i2), .val (.int ((254 : Int32) + (i0 &&& (3 : Int32)))), .unset, .unset, .unset, .unset] [(.long j1), (.long (2147483646 : Int64))])) rfl (hb hby at_29) _ k) ?_
      refine own_by (B := s₁.setTop (mkF m 33 #[.val (.int i0), .val (.long j1), .second, .val (.int i2), .val (.int ((254 : Int32) + (i0 &&& (3 : Int32)))), .unset, .unset, .unset, .unset] [(.long (j1 &&& (3 : Int64))), (.long (2147483646 : Int64))])) (fun t k => XS.land X0.here hx rfl (hb hby at_32) rfl k) ?_
      refine own_by (B := s₁.setTop (mkF m 34 #[.val (.int i0), .val (.long j1), .second, .val (.int i2), .val (.int ((254 : Int32) + (i0 &&& (3 : Int32)))), .unset, .unset, .unset, .unset] [(.long ((2147483646 : Int64) + (j1 &&& (3 : Int64))))])) (fun t k => XS.ladd X0.here hx rfl (hb hby at_33) rfl k) ?_
      refine own_by (B := s₁.setTop (mkF m 38 #[.val (.int i0), .val (.long j1), .second, .val (.int i2), .val (.int ((254 : Int32) + (i0 &&& (3 : Int32)))), .unset, .unset, .unset, .unset] [(.long ((2147483646 : Int64) + (j1 &&& (3 : Int64))))])) (fun t k => XS.goto X0.here hx rfl (pc0 := 34) (pc' := 38) rfl (hb hby at_34) (by decide) (by decide) k) ?_
      refine own_by (B := s₁.setTop (mkF m 40 #[.val (.int i0), .val (.long j1), .second, .val (.int i2), .val (.int ((254 : Int32) + (i0 &&& (3 : Int32)))), .val (.long ((2147483646 : Int64) + (j1 &&& (3 : Int64)))), .second, .unset, .unset] [])) (fun t k => XS.lstore X0.here hx rfl (hb hby at_38) rfl (l' := #[.val (.int i0), .val (.long j1), .second, .val (.int i2), .val (.int ((254 : Int32) + (i0 &&& (3 : Int32)))), .val (.long ((2147483646 : Int64) + (j1 &&& (3 : Int64)))), .second, .unset, .unset]) rfl k) ?_
      exact J40 ((254 : Int32) + (i0 &&& (3 : Int32))) ((2147483646 : Int64) + (j1 &&& (3 : Int64)))
set_option maxRecDepth 65536 in
set_option maxHeartbeats 40000000 in
theorem comes_1 {Post : Tables → Env → Array Value → State → Outcome → State → Prop} (hpost : ∀ tb e args s v u, (limb_1_1.after args s (.returned v) u = true ∧ limb_1_2.after args s (.returned v) u = true ∧ True) → FrameEnd s (.returned v) u (Jvm.fieldLocs frame_1_writes args s ++ Jvm.arrayLocs frame_1_arrays args s ++ Jvm.staticLocs frame_1_statics s) 16 128 → Post tb e args s (.returned v) u) :
    ArmFor flags0 classFile x code maxLocals ret World_1 tables_1 room_1 Calls_1 rest_1 Pre_1 Post := by
  intro l hfl _ _ p e ha hc hk s m args below hf hA hF happ hP
  obtain ⟨hcalls, hrest, hpre⟩ := hP
  obtain ⟨-, -, -, hnamed, -, -, -, hat⟩ := (Spec.applies_iff hf).mp happ
  obtain ⟨hg, hn⟩ := and_e (Cond.before_iff.mp (show (Jvm.Cond.and given_1 narrow_1).before args s = true from hpre))
  obtain ⟨hcount, hg0⟩ := and_e hg
  obtain ⟨hv0, hg1⟩ := and_e hg0
  obtain ⟨hv1, hg2⟩ := and_e hg1
  have hv2 := hg2
  obtain ⟨w0, w1, w2, rfl⟩ : ∃ w0 w1 w2 : Value, args = #[w0, w1, w2] := by
    have hs : args.size = 3 := by simpa [Cond.value, given_1] using hcount
    obtain ⟨L⟩ := args
    match L, hs with
    | [w0, w1, w2], _ => exact ⟨w0, w1, w2, rfl⟩
  have hw := fun d (hd : d ∈ tables_1) => atoms_spec (ws := Jvm.Cond.code x code maxLocals ret :: tables_1) hat d (List.mem_cons_of_mem _ hd)
  have hfit : Fit s := fun {y c} hc i hi => by
    obtain ⟨ha, rfl⟩ := Array.getElem?_eq_some_iff.mp hc
    have q := List.all_eq_true.mp ((Array.all_eq_true_iff_forall_mem.mp hF) _ (Array.getElem_mem ha)) i (List.mem_range.mpr hi)
    simpa [Array.getElem?_eq_getElem hi] using q
  obtain ⟨i0, ei0⟩ := is_v hv0
  obtain rfl : w0 = (.int i0) := Option.some.inj ei0
  obtain ⟨i1, ei1⟩ := isL_v hv1
  obtain rfl : w1 = (.long i1) := Option.some.inj ei1
  obtain ⟨i2, ei2⟩ := is_v hv2
  obtain rfl : w2 = (.int i2) := Option.some.inj ei2
  obtain ⟨n, o, h1, h2, h3, _, L, rfl, ⟨rfl, N⟩, hq⟩ := rm0 l s _ hw tables_1 i0 i1 i2 s.heap s.heap.size (Nat.le_refl _)  p e ha hc hk s m _ below hf ((Spec.applies_iff_loose hf).mp happ).1 ⟨rfl, State.Warmed39.refl s, rfl⟩ trivial
  refine ⟨n, _, h1, h2, h3, hpost _ _ _ _ _ _ ⟨Cond.after_iff.mpr rfl, Cond.after_iff.mpr (eq_i res_at (Term.int_eval (1)) rfl), trivial⟩ ⟨hq.1, hq.2.1, (hq.2.2.sift fun y hy => Or.inr (N y hy)).mono (by decide) (by decide)⟩⟩
theorem main_1_1 : Claimed_1_1 := comes_1 fun _ _ _ _ _ _ h hF => ⟨h.1, hF⟩
theorem main_1_2 : Claimed_1_2 := comes_1 fun _ _ _ _ _ _ h hF => ⟨h.2.1, hF⟩
end Jvm.Pilot.@@N@@
namespace Jvm.Pilot.@@N@@
open Jvm Jvm.ClassFile Sem Op Lib Jvm.Free Jvm.Stand Jvm.Pilot.@@N@@.Jvm.D
/-! MADE BY PROGRAM (witnessworld.py) out of the Statement's table words and the real class files: 10 classes; the members and pool entries that the words name. The judged class is class 1, her method 1. -/
namespace start1
open Jvm.ClassFile
def u (s : String) : CpInfo := .utf8 (stringToUtf16 s)
/-- a pool by its gaps: so many unusable entries, then the entry; so many at the end -/
def gap : Nat → List CpInfo → List CpInfo
  | 0, r => r
  | n + 1, r => .unusable :: gap n r
def poolList (es : List (Nat × CpInfo)) (last : Nat) : List CpInfo := es.foldr (fun e r => gap e.1 (e.2 :: r)) (gap last [])
def pool (es : List (Nat × CpInfo)) (last : Nat) : Array CpInfo := ⟨poolList es last⟩
def fileOf (pool : Array CpInfo) (this : Nat) (attrs : Array Attribute := #[]) (ms : Array MethodInfo := #[]) (fl : Nat := 33) (sup : Nat := 0) (ifs : Array Nat := #[]) (fds : Array FieldInfo := #[]) : ClassFile where
  minorVersion := 0
  majorVersion := 65
  constantPool := pool
  accessFlags := fl
  thisClass := this
  superClass := sup
  interfaces := ifs
  fields := fds
  methods := ms
  attributes := attrs
def plain (name : String) (sup : Option ClassId) : Class where
  name := name
  kind := .ordinary
  loader := none
  accessFlags := 33
  super := sup
  interfaces := #[]
  cf := none
  fields := #[]
  methods := #[]
  instanceTypes := #[]
  staticTypes := #[]
  resolved := #[]
  callSites := []
  init := .initialized
  statics := none
  mirror := none

def pool0 : Array CpInfo := pool [(5, u "<init>"), (0, u "()V"), (1, .class_ 10), (1, u "java/lang/Object")] 113

def k0c0 : Code := { maxStack := 0, maxLocals := 1, code := object_method_1_code, exceptionTable := #[], attributes := #[] }
def k0m0 : Method := { name := "<init>", desc := "()V", sig := { parameters := [], returnType := none }, accessFlags := 1, code := some k0c0 }
/-- java/lang/Object -/
def k0 : Class := { plain "java/lang/Object" none with
  accessFlags := 33
  interfaces := #[]
  cf := some (fileOf pool0 8 #[] #[{ accessFlags := 1, nameIndex := 5, descriptorIndex := 6, attributes := #[] }] 33 0 #[] #[])
  fields := #[]
  methods := #[k0m0]
  instanceTypes := #[]
  staticTypes := #[]
  resolved := Array.replicate 124 none
  statics := none }

def pool1 : Array CpInfo := pool [(2, .class_ 4), (1, u "java/lang/Object"), (0, u "<init>"), (0, u "()V"), (0, .long 2147483646), (1, .long 3), (1, .class_ 12), (0, u "com/example/bivista/bivista/query/QueryWriter$Measure"), (0, .methodref 11 14), (0, .nameAndType 5 15), (0, u "(IJ)V"), (0, .long 2147483647), (1, .methodref 11 19), (0, .nameAndType 20 21), (0, u "writable"), (0, u "()Z"), (0, .class_ 23), (0, u "com/example/bivista/bivista/query/MeasureWritablePinLaw"), (2, u "law"), (0, u "(IJI)Z")] 7

def k1m0 : Method := { name := "<init>", desc := "()V", sig := { parameters := [], returnType := none }, accessFlags := 1, code := none }
def k1c1 : Code := { maxStack := 6, maxLocals := 9, code := code, exceptionTable := #[], attributes := #[] }
def k1m1 : Method := { name := "law", desc := "(IJI)Z", sig := { parameters := [.int, .long, .int], returnType := some .boolean }, accessFlags := 9, code := some k1c1 }
/-- com/example/bivista/bivista/query/MeasureWritablePinLaw -/
def k1 : Class := { plain "com/example/bivista/bivista/query/MeasureWritablePinLaw" (some 0) with
  accessFlags := 49
  interfaces := #[]
  cf := some (fileOf pool1 22 #[] #[{ accessFlags := 1, nameIndex := 5, descriptorIndex := 6, attributes := #[] }, { accessFlags := 9, nameIndex := 26, descriptorIndex := 27, attributes := #[] }] 49 2 #[] #[])
  fields := #[]
  methods := #[k1m0, k1m1]
  instanceTypes := #[]
  staticTypes := #[]
  resolved := Array.replicate 35 none
  statics := none }

def pool2 : Array CpInfo := pool [(1, .methodref 2 3), (0, .class_ 4), (0, .nameAndType 5 6), (0, u "java/lang/Object"), (0, u "<init>"), (0, u "()V"), (0, .class_ 8), (0, u "java/lang/Record")] 13

def k2c0 : Code := { maxStack := 1, maxLocals := 1, code := jdk_30_method_1_code, exceptionTable := #[], attributes := #[] }
def k2m0 : Method := { name := "<init>", desc := "()V", sig := { parameters := [], returnType := none }, accessFlags := 4, code := some k2c0 }
/-- java/lang/Record -/
def k2 : Class := { plain "java/lang/Record" (some 0) with
  accessFlags := 1057
  interfaces := #[]
  cf := some (fileOf pool2 7 #[] #[{ accessFlags := 4, nameIndex := 5, descriptorIndex := 6, attributes := #[] }] 1057 2 #[] #[])
  fields := #[]
  methods := #[k2m0]
  instanceTypes := #[]
  staticTypes := #[]
  resolved := Array.replicate 22 none
  statics := none }

def pool3 : Array CpInfo := pool [(1, .class_ 2), (0, u "com/example/bivista/bivista/query/QueryWriter"), (0, .methodref 4 5), (0, .class_ 6), (0, .nameAndType 7 8), (0, u "java/lang/Record"), (0, u "<init>"), (0, u "()V"), (0, .fieldref 10 11), (0, .class_ 12), (0, .nameAndType 13 14), (0, u "com/example/bivista/bivista/query/QueryWriter$Measure"), (0, u "depth"), (0, u "I"), (0, .fieldref 10 16), (0, .nameAndType 17 18), (0, u "length"), (0, u "J"), (2, .long 2147483647), (13, u "(IJ)V"), (3, u "writable"), (0, u "()Z")] 28

def k3c0 : Code := { maxStack := 3, maxLocals := 4, code := prog_86_method_1_code, exceptionTable := #[], attributes := #[] }
def k3m0 : Method := { name := "<init>", desc := "(IJ)V", sig := { parameters := [.int, .long], returnType := none }, accessFlags := 1, code := some k3c0 }
def k3c1 : Code := { maxStack := 4, maxLocals := 1, code := prog_86_method_2_code, exceptionTable := #[], attributes := #[] }
def k3m1 : Method := { name := "writable", desc := "()Z", sig := { parameters := [], returnType := some .boolean }, accessFlags := 1, code := some k3c1 }
/-- com/example/bivista/bivista/query/QueryWriter$Measure -/
def k3 : Class := { plain "com/example/bivista/bivista/query/QueryWriter$Measure" (some 2) with
  accessFlags := 49
  interfaces := #[]
  cf := some (fileOf pool3 10 #[.nestHost 1] #[{ accessFlags := 1, nameIndex := 7, descriptorIndex := 35, attributes := #[] }, { accessFlags := 1, nameIndex := 39, descriptorIndex := 40, attributes := #[] }] 49 4 #[] #[{ accessFlags := 18, nameIndex := 13, descriptorIndex := 14, attributes := #[] }, { accessFlags := 18, nameIndex := 17, descriptorIndex := 18, attributes := #[] }])
  fields := #[{ name := "depth", type := .int, accessFlags := 18, slot := 0, constantValue := 0 }, { name := "length", type := .long, accessFlags := 18, slot := 1, constantValue := 0 }]
  methods := #[k3m0, k3m1]
  instanceTypes := #[.int, .long]
  staticTypes := #[]
  resolved := Array.replicate 69 none
  statics := none }

def pool4 : Array CpInfo := pool [(1, u "java/lang/Cloneable"), (0, .class_ 1), (0, u "java/lang/Object"), (0, .class_ 3)] 3

/-- java/lang/Cloneable -/
def k4 : Class := { plain "java/lang/Cloneable" (some 0) with
  accessFlags := 1537
  interfaces := #[]
  cf := some (fileOf pool4 2 #[] #[] 1537 4 #[] #[])
  fields := #[]
  methods := #[]
  instanceTypes := #[]
  staticTypes := #[]
  resolved := Array.replicate 8 none
  statics := none }

def pool5 : Array CpInfo := pool [(1, u "java/io/Serializable"), (0, .class_ 1), (0, u "java/lang/Object"), (0, .class_ 3)] 3

/-- java/io/Serializable -/
def k5 : Class := { plain "java/io/Serializable" (some 0) with
  accessFlags := 1537
  interfaces := #[]
  cf := some (fileOf pool5 2 #[] #[] 1537 4 #[] #[])
  fields := #[]
  methods := #[]
  instanceTypes := #[]
  staticTypes := #[]
  resolved := Array.replicate 8 none
  statics := none }

/-- the primitive byte -/
def k6 : Class := { plain "byte" none with kind := .primitive 'B', accessFlags := 0x411 }
/-- [B -/
def k7 : Class := { plain "[B" (some 0) with kind := .array 6 .byte, interfaces := #[4, 5], accessFlags := 1041 }

/-- the primitive int -/
def k8 : Class := { plain "int" none with kind := .primitive 'I', accessFlags := 0x411 }
/-- [I -/
def k9 : Class := { plain "[I" (some 0) with kind := .array 8 .int, interfaces := #[4, 5], accessFlags := 1041 }

def heap : Heap := #[]
def classes : Array Class := #[k0, k1, k2, k3, k4, k5, k6, k7, k8, k9]
def interned : List (Array UInt16 × Addr) := []
def slotsUsed : Nat := 0
def theMethod : MethodId := ⟨1, 1⟩
def args0 : Array Value := #[.int 5, .long 7, .int 3]
def aboutOver (below : List Frame) : State where
  vm := { classes := classes, interned := interned.toArray }
  heap := heap
  slotsUsed := slotsUsed
  threads := #[{ frames := .invoking theMethod args0 :: below }]
def below0 : List Frame := [.native { method := ⟨0, 0⟩, args := #[] }]
def about1 : State := aboutOver below0
def p0 : Program := .bare "" "" ""
def e0 : Env := launch0.env 0 0 0
theorem w_frames : about1.frames = Frame.invoking theMethod args0 :: below0 := rfl
set_option maxRecDepth 65536 in
theorem w_args : argsFit about1.vm theMethod args0 = true := by decide +kernel
set_option maxRecDepth 65536 in
theorem w_heap : heapFits about1 = true := by decide +kernel
set_option maxRecDepth 65536 in
theorem w_runnable : about1.curStatus? = some .runnable := by decide +kernel
set_option maxRecDepth 65536 in
theorem w_alone : about1.alone = true := by decide +kernel
set_option maxRecDepth 65536 in
theorem w_named : about1.methodNamed? x = some theMethod := by decide +kernel
set_option maxRecDepth 65536 in
theorem w_hears : about1.hears theMethod below0 = true := by decide +kernel
set_option maxRecDepth 65536 in
theorem w_ripe : about1.ripe theMethod args0 below0 = true := by decide +kernel
theorem w_running : about1.status = .running := rfl
set_option maxRecDepth 65536 in
theorem w_room : about1.hasRoom e0.platform room_1 = true :=
  launch0.hasRoom_least _ room_1 (by decide +kernel) (by decide +kernel) (by decide +kernel) (by decide +kernel) (by decide +kernel) (by decide +kernel)
theorem allAtoms_all (ts : List Jvm.Cond) (a : Array Jvm.Value) (st : Jvm.State) : (allAtoms ts).before a st = ts.all (fun c => c.before a st) := by
  induction ts with
  | nil => rfl
  | cons c t ih =>
    show (Jvm.Cond.and c (allAtoms t)).before a st = _
    rw [Jvm.Cond.before_and, ih, List.all_cons]
def words1 : List Jvm.Cond := Jvm.Cond.code x code maxLocals ret :: tables_1
/-- a 'code' word, met by the world's own term for the bytes: nothing is compared byte by byte -/
theorem code_word {y : MethodName} {bytes : ByteArray} {mx : Nat} {rt : Option FieldType} {a : Array Value} {s : State} {m : MethodId} {meth : Method} {c : Code} (h1 : s.methodNamed? y = some m) (h2 : s.vm.method? m = some meth) (h3 : meth.code = some c) (h4 : c.code = bytes)
    (h5 : (c.maxLocals == mx && c.exceptionTable.isEmpty && decide (c.maxStack ≤ mostOperands) && decide (meth.sig.returnType = rt) && !meth.locks && decide (parseMethodDescriptor y.desc = some meth.sig)) = true) : (Jvm.Cond.code y bytes mx rt).before a s = true := by
  simp only [Bool.and_eq_true, beq_iff_eq, Bool.not_eq_true', decide_eq_true_eq] at h5
  obtain ⟨⟨⟨⟨⟨g1, g2⟩, g3⟩, g4⟩, g5⟩, g6⟩ := h5
  simp [Cond.before, Cond.holds, Cond.value, h1, h2, h3, h4, g1, g2, g3, g4, g5, g6]
def isCode : Jvm.Cond → Bool
  | .code _ _ _ _ => true
  | _ => false
theorem all_split {L : List Jvm.Cond} {P : Jvm.Cond → Bool} (h1 : L.all (fun c => isCode c || P c) = true) (h2 : ∀ c ∈ L.filter isCode, P c = true) : L.all P = true := by
  refine List.all_eq_true.mpr fun c hc => ?_
  have h := List.all_eq_true.mp h1 c hc
  rcases Bool.eq_false_or_eq_true (isCode c) with hi | hi
  · exact h2 c (List.mem_filter.mpr ⟨hc, hi⟩)
  · simpa [hi] using h
set_option maxRecDepth 65536 in
theorem w_c0 : (Jvm.Cond.code x code maxLocals ret).before args0 about1 = true := code_word (m := ⟨1, 1⟩) (meth := k1m1) (c := k1c1) (by decide +kernel) rfl rfl rfl (by decide +kernel)
set_option maxRecDepth 65536 in
theorem w_c1 : (Jvm.Cond.code ({ cls := "com/example/bivista/bivista/query/QueryWriter$Measure", name := "<init>", desc := "(IJ)V" } : Jvm.MethodName) prog_86_method_1_code (4 : Nat) (Option.none : Option Jvm.ClassFile.FieldType)).before args0 about1 = true := code_word (m := ⟨3, 0⟩) (meth := k3m0) (c := k3c0) (by decide +kernel) rfl rfl rfl (by decide +kernel)
set_option maxRecDepth 65536 in
theorem w_c2 : (Jvm.Cond.code ({ cls := "java/lang/Record", name := "<init>", desc := "()V" } : Jvm.MethodName) jdk_30_method_1_code (1 : Nat) (Option.none : Option Jvm.ClassFile.FieldType)).before args0 about1 = true := code_word (m := ⟨2, 0⟩) (meth := k2m0) (c := k2c0) (by decide +kernel) rfl rfl rfl (by decide +kernel)
set_option maxRecDepth 65536 in
theorem w_c3 : (Jvm.Cond.code ({ cls := "java/lang/Object", name := "<init>", desc := "()V" } : Jvm.MethodName) object_method_1_code (1 : Nat) (Option.none : Option Jvm.ClassFile.FieldType)).before args0 about1 = true := code_word (m := ⟨0, 0⟩) (meth := k0m0) (c := k0c0) (by decide +kernel) rfl rfl rfl (by decide +kernel)
set_option maxRecDepth 65536 in
theorem w_c4 : (Jvm.Cond.code ({ cls := "com/example/bivista/bivista/query/QueryWriter$Measure", name := "writable", desc := "()Z" } : Jvm.MethodName) prog_86_method_2_code (1 : Nat) (Option.some Jvm.ClassFile.FieldType.boolean)).before args0 about1 = true := code_word (m := ⟨3, 1⟩) (meth := k3m1) (c := k3c1) (by decide +kernel) rfl rfl rfl (by decide +kernel)
def codes1 : List Jvm.Cond := [Jvm.Cond.code x code maxLocals ret, Jvm.Cond.code ({ cls := "com/example/bivista/bivista/query/QueryWriter$Measure", name := "<init>", desc := "(IJ)V" } : Jvm.MethodName) prog_86_method_1_code (4 : Nat) (Option.none : Option Jvm.ClassFile.FieldType), Jvm.Cond.code ({ cls := "java/lang/Record", name := "<init>", desc := "()V" } : Jvm.MethodName) jdk_30_method_1_code (1 : Nat) (Option.none : Option Jvm.ClassFile.FieldType), Jvm.Cond.code ({ cls := "java/lang/Object", name := "<init>", desc := "()V" } : Jvm.MethodName) object_method_1_code (1 : Nat) (Option.none : Option Jvm.ClassFile.FieldType), Jvm.Cond.code ({ cls := "com/example/bivista/bivista/query/QueryWriter$Measure", name := "writable", desc := "()Z" } : Jvm.MethodName) prog_86_method_2_code (1 : Nat) (Option.some Jvm.ClassFile.FieldType.boolean)]
set_option maxRecDepth 65536 in
theorem codes_eq : words1.filter isCode = codes1 := rfl
theorem w_codes : ∀ c ∈ words1.filter isCode, c.before args0 about1 = true := by
  rw [codes_eq]
  intro c hc
  simp only [codes1, List.mem_cons, List.not_mem_nil, or_false] at hc
  rcases hc with rfl | rfl | rfl | rfl | rfl
  · exact w_c0
  · exact w_c1
  · exact w_c2
  · exact w_c3
  · exact w_c4
set_option maxRecDepth 65536 in
theorem w_t1 : (words1.take 24).all (fun c => isCode c || c.before args0 about1) = true := by decide +kernel
set_option maxRecDepth 65536 in
theorem w_t2 : (words1.drop 24).all (fun c => isCode c || c.before args0 about1) = true := by decide +kernel
theorem w_tables : (allAtoms (Jvm.Cond.code x code maxLocals ret :: tables_1)).before args0 about1 = true := by
  rw [allAtoms_all]
  show words1.all (fun c => c.before args0 about1) = true
  refine all_split ?_ w_codes
  rw [← List.take_append_drop 24 words1, List.all_append, w_t1, w_t2]
  rfl
set_option maxRecDepth 65536 in
theorem w_case : (Jvm.Cond.and given_1 narrow_1).before args0 about1 = true := by decide +kernel
theorem w_applies : (headSpec (Jvm.Cond.code x code maxLocals ret :: tables_1) room_1).applies x e0.platform about1 = true :=
  (Spec.applies_iff w_frames).mpr ⟨w_running, w_runnable, w_alone, w_named, w_hears, w_ripe, w_room, w_tables⟩
theorem atStart : AtStart classFile x code maxLocals ret World_1 tables_1 room_1 Calls_1 rest_1 Pre_1 launch0 p0 e0 about1 theMethod args0 below0 :=
  ⟨lists_1, trivial, launch0.admits_env _ _ _, launch0.least_env, fairChoices_fair.cas, fairChoices_fair.clock, w_frames, w_args, w_heap, w_applies, trivial, trivial, w_case⟩
end start1
theorem witness_1 : WitnessClaimed_1 := ⟨start1.p0, start1.e0, start1.about1, start1.theMethod, start1.args0, start1.below0, start1.atStart⟩
end Jvm.Pilot.@@N@@
