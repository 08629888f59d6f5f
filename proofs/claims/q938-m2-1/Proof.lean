import JvmDerived
import JvmDerived.Pilot.@@N@@Statement
import JvmDerived.Pilot.@@N@@Code
set_option linter.unusedVariables false
set_option linter.unusedSimpArgs false
namespace Jvm.RoadKit
open Sem ClassFile Op Lib Jvm.Stand Jvm.Free Jvm.LawKit
section New
variable {p : Program} {l : Launch} {e : Env} {R : Room} {s : State} {m : MethodId} {args : Array Value} {below : List Frame} {meth : Method} {c : Code} {T : State} {locs : List Loc} {cells slots : Nat}
theorem retI (X : Stand p l e R s m args below meth c T locs cells slots) (hx : p.tables.exec = Jvm.exec) {pc : Nat} {Ls : Array Slot} {z : Int32} {rest : List Value} (hret : meth.sig.returnType = some .int) (hd : decode c.code pc = .ok (.ireturn, 1)) {fs : List Frame}
    (hl : ∀ (f : JFrame) (acts : List Action), f.method = m → f.locked = none → f.entered = [] → (doReturn e (T.setTop f) acts (some (.int z))).1 = T.setFrames fs) : Steps p.tables e below (T.setTop (mkF m pc Ls (.int z :: rest))) (T.setFrames fs) := by
  have hm' : T.vm.method? m = some meth := X.method'
  have hn : narrow .int (.int z) = .int z := rfl
  show Steps p.tables e below (T.setTop { method := m, pc := pc, locals := Ls, stack := _ :: rest, locked := none }) _
  jvm_step X.here [X.here.top, hx, hd, hm', hret, hn]
  first | (intro acts; rw [hl _ acts rfl rfl rfl]) | rw [hl _ _ rfl rfl rfl]
  exact Steps.refl _
/-- the run from A ends, and P holds at the end -/
def own_Go (p : Program) (e : Env) (below : List Frame) (A : State) (P : State → Outcome → Prop) : Prop := ∃ s₂ o, Steps p.tables e below A s₂ ∧ s₂.status = .running ∧ Ended s₂ below o ∧ P s₂ o
theorem own_by {A B : State} {P : State → Outcome → Prop} (h : ∀ t, Steps p.tables e below B t → Steps p.tables e below A t) (g : own_Go p e below B P) : own_Go p e below A P := by
  obtain ⟨s2, o, h1, h2⟩ := g
  exact ⟨s2, o, h _ h1, h2⟩
theorem own_end (X : Stand p l e R s m args below meth c T locs cells slots) {v : Option Value} (hv : meth.sig.returnType = none → v = none) (hlk : meth.locks = false) {A : State} {Q : Option Value → Heap → List Loc → Prop} {k n : Nat}
    (hs : ∀ fs, (∀ (f : JFrame) (acts : List Action), f.method = m → f.locked = none → f.entered = [] → (doReturn e (T.setTop f) acts v).1 = T.setFrames fs) → Steps p.tables e below A (T.setFrames fs))
    (hq : Q v T.heap locs) (hk : cells ≤ k) (hn : slots ≤ n) : own_Go p e below A (fun t o => ∃ v L, o = .returned v ∧ Q v t.heap L ∧ FrameEnd s o t L k n) := by
  obtain ⟨fs, hr, hrun, hended, hW, hsame⟩ := X.leave (v := v) hv hlk
  exact ⟨_, _, hs fs hr, hrun, hended, _, _, rfl, hq, ⟨_, rfl⟩, hW, hsame.mono hk hn⟩
theorem own_endW {vm₁ : Vm} (X : Stand p l e R (s.setVm vm₁) m args below meth c T locs cells slots) {n0 : Nat} (hS : s.Since vm₁ n0) (hn0 : n0 ≤ T.heap.size) {v : Option Value} (hv : meth.sig.returnType = none → v = none) (hlk : meth.locks = false) {A : State} {Q : Option Value → Heap → List Loc → Prop} {k n : Nat}
    (hs : ∀ fs, (∀ (f : JFrame) (acts : List Action), f.method = m → f.locked = none → f.entered = [] → (doReturn e (T.setTop f) acts v).1 = T.setFrames fs) → Steps p.tables e below A (T.setFrames fs))
    (hq : Q v T.heap locs) (hk : cells ≤ k) (hn : slots ≤ n) : own_Go p e below A (fun t o => ∃ v L, o = .returned v ∧ Q v t.heap L ∧ ReturnedEndW s o t L k n) := by
  obtain ⟨fs, hr, hrun, hended, h1, h2, h3, h4⟩ := X.leaveW hS hn0 (v := v) hv hlk
  exact ⟨_, _, hs fs hr, hrun, hended, _, _, rfl, hq, h1, h2, h3, h4.mono hk hn⟩
theorem own_newPE {Z : State} {a0 : Array Value} {h : Heap} (X : Stand p l e R s m args below meth c T locs cells slots) (hx : p.tables.exec = Jvm.exec) (hZ : Z.Warmed39 s.vm) {aty : ArrayType} (w : (Cond.arrayClass (newarray.typeOf aty)).before a0 Z = true) (eT : T.heap = h) {g : JFrame} (hg : g.method = m) (hd : decode c.code g.pc = .ok (.newarray aty, 2)) {n : Int32} {rest : List Value} (hs : g.stack = .int n :: rest)
    (hn : ¬ n < 0) {cap : Nat} (hcap : n.toNatClampNeg ≤ cap) (hb : cap * 8 ≤ 536870912) (hc : cells + 1 ≤ R.cells) (hl : slots + cap ≤ R.slots) {ad : String} (had : "[" ++ (newarray.typeOf aty).toString = ad) :
    ∃ T' h' cA, Stand p l e R s m args below meth c T' locs (cells + 1) (slots + cap) ∧ T'.heap = h' ∧ Ext h h' ∧ Arr Z h' h.size (newA cA (newarray.typeOf aty) n) (newarray.typeOf aty) ∧ Exa Z h' h.size ad ∧
      ∀ target, Steps p.tables e below (T'.setTop { g with pc := g.pc + 2, stack := .ref h.size :: rest }) target → Steps p.tables e below (T.setTop g) target := by
  have hcb : componentBytes (newarray.typeOf aty) ≤ 8 := by cases aty <;> decide
  obtain ⟨cA, kA, comp, f1, f2, f3, Y, st⟩ := X.newarrayPrim hx (mvA hZ w) hg hd hs hn (Nat.le_trans (Nat.mul_le_mul hcap hcb) hb) hc (Nat.le_trans (Nat.add_le_add_left hcap _) hl)
  subst eT had
  have f1' : Z.vm.findClass ("[" ++ (newarray.typeOf aty).toString) = some cA := by rw [← hZ.alike.findClass]; exact f1
  obtain ⟨kZ, z1, -⟩ := Vm.findClass_spec f1'
  obtain ⟨k', z2, z3⟩ := hZ.alike.2.2 _ _ z1
  have ek : kA = k' := Option.some.inj (f2.symm.trans z2)
  have kd : kZ.kind = .array comp (newarray.typeOf aty) := by rw [← f3, ek, z3]
  have hN : (T.heap.push (newA cA (newarray.typeOf aty) n))[T.heap.size]? = some (newA cA (newarray.typeOf aty) n) := by simp
  refine ⟨_, _, cA, Y.more (Nat.le_refl _) (Nat.add_le_add_left hcap _), rfl, ext_of fun a q => ?_, ⟨hN, ⟨fun _ z => (by cases z), kZ, z1, comp, kd⟩, fun z => (by cases z)⟩, ⟨_, kZ, hN, f1', z1, rfl, fun ho => by rw [kd] at ho; cases ho⟩, st⟩
  exact (Array.getElem?_push_lt q).trans (Array.getElem?_eq_getElem q).symm
end New
section Arf
variable {Z : State} {h h' : Heap} {a b : Addr} {ty : FieldType} {n z : Int32} {f g : Nat → Value} {sl : Nat} {v : Value} {ws : List Addr} {k : ClassId}
/-- an array of n places, of which place i holds f i -/
def own_Arf (Z : State) (h : Heap) (a : Addr) (ty : FieldType) (n : Int32) (f : Nat → Value) : Prop := ∃ c : Cell, Arr Z h a c ty ∧ c.slots.size = n.toNatClampNeg ∧ ¬ n < 0 ∧ ∀ i, i < c.slots.size → c.slots[i]? = some (f i)
theorem own_Arf.lt (F : own_Arf Z h a ty n f) : a < h.size := by obtain ⟨c, A, -⟩ := F; exact A.lt
theorem own_Arf.ext (F : own_Arf Z h a ty n f) (E : Ext h h') : own_Arf Z h' a ty n f := by obtain ⟨c, A, r⟩ := F; exact ⟨c, A.ext E, r⟩
theorem own_Arf.other (F : own_Arf Z h b ty n f) (W : Wr h h' a sl v) (q : b ≠ a) : own_Arf Z h' b ty n f := by obtain ⟨c, A, r⟩ := F; exact ⟨c, A.other W q, r⟩
theorem own_Arf.keep (F : own_Arf Z h a ty n f) (K : Keep h h' ws) (q : a ∉ ws) : own_Arf Z h' a ty n f := by obtain ⟨c, A, r⟩ := F; exact ⟨c, ⟨K.2.1 a c A.1 q, A.2⟩, r⟩
theorem own_Arf.new (A : Arr Z h a (newA k ty z) ty) (q : ¬ z < 0) : own_Arf Z h a ty z (fun _ => defaultValue ty) := ⟨_, A, sz_new _ _ _, q, fun i hi => by
  rw [sz_new] at hi
  simp [newA, hi]⟩
theorem own_Arf.set (F : own_Arf Z h a ty n f) (W : Wr h h' a sl v) : own_Arf Z h' a ty n (fun i => if i = sl then v else f i) := by
  obtain ⟨c, A, S, N, H⟩ := F
  have hsl : sl < c.slots.size := by
    obtain ⟨c2, e1, -, e3, -⟩ := W
    cases A.1.symm.trans e1
    exact e3
  refine ⟨_, A.same W, by rw [sz_set]; exact S, N, fun i hi => ?_⟩
  rw [sz_set] at hi
  by_cases e : i = sl
  · subst e
    simp [Cell.setSlot, hi]
  · simp only [Cell.setSlot, if_neg e]
    rw [Array.getElem?_setIfInBounds_ne (Ne.symm e)]
    exact H i hi
theorem own_Arf.congr (F : own_Arf Z h a ty n f) (q : ∀ i, i < n.toNatClampNeg → f i = g i) : own_Arf Z h a ty n g := by
  obtain ⟨c, A, S, N, H⟩ := F
  exact ⟨c, A, S, N, fun i hi => by rw [← q i (by rw [← S]; exact hi)]; exact H i hi⟩
theorem own_Arf.at (F : own_Arf Z h a ty n f) {j : Int32} (q : ¬ j < 0 ∧ j < n) : ∃ c : Cell, Arr Z h a c ty ∧ ¬ (j < 0 ∨ c.slots.size ≤ j.toNatClampNeg) ∧ c.slots[j.toNatClampNeg]? = some (f j.toNatClampNeg) := by
  obtain ⟨c, A, S, N, H⟩ := F
  have hin := inb_of S q
  exact ⟨c, A, hin, H _ (Nat.lt_of_not_le fun y => hin (Or.inr y))⟩
theorem own_Arf.nn (F : own_Arf Z h a ty n f) : ¬ n < 0 := by obtain ⟨c, A, S, N, H⟩ := F; exact N
/-- an array of objects of the class C -/
def own_Ovr (Z : State) (h : Heap) (a : Addr) (C : String) : Prop := ∃ (c : Cell) (ty : FieldType), Arr Z h a c ty ∧ Ovr Z c.cls C
theorem own_Ovr.wr {C : String} (W : Wr h h' b sl v) (F : own_Ovr Z h a C) : own_Ovr Z h' a C := by
  obtain ⟨c, ty, A, O⟩ := F
  by_cases e : a = b
  · subst e; exact ⟨_, ty, A.same W, O⟩
  · exact ⟨c, ty, A.other W e, O⟩
theorem own_Ovr.ext {C : String} (F : own_Ovr Z h a C) (E : Ext h h') : own_Ovr Z h' a C := by obtain ⟨c, ty, A, O⟩ := F; exact ⟨c, ty, A.ext E, O⟩
theorem own_Ovr.sto {C : String} {y : Addr} (F : own_Ovr Z h a C) (I : Exa Z h y C) : Sto Z h a (.ref y) := by obtain ⟨c, ty, A, O⟩ := F; exact Sto.of A O (Ins.self I)
theorem own_selp {s : State} {a0 args : Array Value} {y : MethodName} {n : Nat} (hZ : Z.Warmed39 s.vm) (wi : (Cond.instantiable y.cls n).before a0 Z = true) (wn : (Cond.instanceMethod y).before a0 Z = true) (wp : (Cond.privateMethod y).before a0 Z = true) (hy : y.cls ≠ "java/lang/invoke/MethodHandle" ∧ y.cls ≠ "java/lang/invoke/VarHandle") : (Cond.selects y.cls y y).before args s = true := by
  obtain ⟨c2, k2, i1, i2, -, i4, -⟩ := Cond.instantiable_spec (mvT hZ wi : (Cond.instantiable y.cls n).before args s = true)
  simp only [Bool.or_eq_false_iff] at i4
  exact selects_self_of_private i1 i2 i4.1 (Cond.privateMethod_at (mvP hZ wp (args := args))) (mvT hZ wn) hy
theorem own_sta_keep {C n d : String} {w : Value} (F : Sta Z h C n d w) (K : Keep h h' []) : Sta Z h' C n d w := by
  obtain ⟨cf, i, k, f, st, cell, h1, h2, h3, h4, h5, h6⟩ := F
  exact ⟨cf, i, k, f, st, cell, h1, h2, h3, h4, K.2.1 _ _ h5 nin0, h6⟩
theorem own_ofNat_int {m : Nat} (h : m < 2 ^ 31) : (Int32.ofNat m).toInt = m := Int32.toInt_ofNat_of_lt h
theorem own_tn {m : Nat} (h : m < 2 ^ 31) : (Int32.ofNat m).toNatClampNeg = m := by
  show (Int32.ofNat m).toInt.toNat = m
  rw [own_ofNat_int h]; omega
theorem own_nn {m : Nat} (h : m < 2 ^ 31) : ¬ Int32.ofNat m < 0 := by
  rw [Int32.lt_iff_toInt_lt, own_ofNat_int h]; show ¬ (m : Int) < 0; omega
theorem own_ltN {i m : Nat} (h : i < m) (hm : m < 2 ^ 31) : Int32.ofNat i < Int32.ofNat m := by
  rw [Int32.lt_iff_toInt_lt, own_ofNat_int hm, own_ofNat_int (by omega)]; omega
theorem own_in {i m : Nat} (h : i < m) (hm : m < 2 ^ 31) : ¬ Int32.ofNat i < 0 ∧ Int32.ofNat i < Int32.ofNat m := ⟨own_nn (by omega), own_ltN h hm⟩
theorem own_injN {i m : Nat} (hi : i < 2 ^ 31) (hm : m < 2 ^ 31) (e : Int32.ofNat i = Int32.ofNat m) : i = m := by
  have := congrArg Int32.toInt e
  rw [own_ofNat_int hi, own_ofNat_int hm] at this; omega
theorem own_Arf.arv (F : own_Arf Z h a ty n f) (hf : ∀ i, i < n.toNatClampNeg → fits ty (f i) = true) (d : Value) : ∃ k, Arv Z h a k ty n ((List.range n.toNatClampNeg).map f) d := by
  obtain ⟨c, A, S, N, H⟩ := F
  have hg : ∀ i, i < n.toNatClampNeg → ((List.range n.toNatClampNeg).map f).getD i d = f i := fun i hi => by
    simp [List.getD, hi]
  refine ⟨c.cls, c, A, rfl, S, N, fun i hi => ?_, fun i hi => ?_⟩
  · rw [hg i (by rw [← S]; exact hi)]; exact H i hi
  · rw [hg i (by rw [← S]; exact hi)]; exact hf i (by rw [← S]; exact hi)
theorem own_Arf.of {vs : List Value} {d : Value} (F : Arv Z h a k ty n vs d) : own_Arf Z h a ty n (fun i => vs.getD i d) := by
  obtain ⟨c, A, -, S, N, H, -⟩ := F
  exact ⟨c, A, S, N, H⟩
end Arf
end Jvm.RoadKit
namespace Jvm.Pilot.@@N@@
open Jvm Jvm.ClassFile Sem Op Lib Jvm.Free Jvm.Stand Jvm.LawKit Jvm.RoadKit Bundle Jvm.Pilot.@@N@@.Jvm.D
theorem own_m2 (s : Nat) : (2 : Int32) * Int32.ofNat s = Int32.ofNat (2 * s) := by rw [Int32.ofNat_mul]; rfl
theorem own_a1 (s : Nat) : Int32.ofNat s + (1 : Int32) = Int32.ofNat (s + 1) := by rw [Int32.ofNat_add]; rfl
def own_max (a b : Int32) : Int32 := if a < b then b else a
def own_min (a b : Int32) : Int32 := if b < a then b else a
theorem own_maxN {mz : Nat} (hm : mz < 2 ^ 30) : own_max (2 : Int32) (Int32.ofNat (2 * mz)) = Int32.ofNat (if mz = 0 then 2 else 2 * mz) := by
  have h2 : ((2 : Int32) < Int32.ofNat (2 * mz)) ↔ 2 < 2 * mz := by
    rw [Int32.lt_iff_toInt_lt, own_ofNat_int (by omega)]; show (2 : Int) < _ ↔ _; omega
  unfold own_max
  by_cases h0 : mz = 0
  · subst h0; rfl
  · rw [if_neg h0]
    by_cases h1 : mz = 1
    · subst h1; rfl
    · rw [if_pos (h2.mpr (by omega))]
theorem own_minN {mz k : Nat} (hm : mz < k) (hk : k < 2 ^ 31) : own_min (Int32.ofNat mz) (Int32.ofNat k) = Int32.ofNat mz := by
  unfold own_min
  rw [if_neg]
  rw [Int32.lt_iff_toInt_lt, own_ofNat_int hk, own_ofNat_int (by omega)]; omega
theorem own_small {w : Int32} {N : Nat} (h0 : 0 ≤ w.toInt) (h1 : w.toInt < N) : ∃ n : Fin N, w = Int32.ofNat n.1 := by
  refine ⟨⟨w.toInt.toNat, by omega⟩, ?_⟩
  apply Int32.toInt_inj.mp
  have : w.toInt < 2147483648 := w.toInt_lt
  rw [Int32.toInt_ofNat_of_lt (by show w.toInt.toNat < 2 ^ 31; omega)]
  show w.toInt = ((w.toInt.toNat : Nat) : Int)
  omega
theorem own_cap (x : Int32) : ∃ cap : Nat, cap ≤ 3 ∧ x &&& (3 : Int32) = Int32.ofNat cap := by
  have h := c_mask x 3 2 (by decide) (by decide)
  obtain ⟨n, e⟩ := own_small (w := x &&& 3) (N := 4) (by omega) (by omega)
  exact ⟨n.1, by omega, e⟩
theorem own_get {mz : Nat} {f : Nat → Value} {i : Nat} (hi : i < mz) (hm : mz < 2 ^ 31) : ((List.range (Int32.ofNat mz).toNatClampNeg).map f).getD i (.int 0) = f i := by
  rw [own_tn hm]; simp [List.getD, hi]
theorem own_cnt (x : Int32) : ((x.toUInt32 >>> ((2 : Int32) &&& 31).toUInt32).toInt32) % (5 : Int32) = 0 ∨ ((x.toUInt32 >>> ((2 : Int32) &&& 31).toUInt32).toInt32) % (5 : Int32) = 1 ∨ ((x.toUInt32 >>> ((2 : Int32) &&& 31).toUInt32).toInt32) % (5 : Int32) = 2 ∨ ((x.toUInt32 >>> ((2 : Int32) &&& 31).toUInt32).toInt32) % (5 : Int32) = 3 ∨ ((x.toUInt32 >>> ((2 : Int32) &&& 31).toUInt32).toInt32) % (5 : Int32) = 4 := by
  have h := c_iushr x 2 2 (by decide) (by decide)
  have h1 := rng32 x
  have h2 := (c_irem ((x.toUInt32 >>> ((2 : Int32) &&& 31).toUInt32).toInt32) 5 5 (by decide)).1 (by omega)
  obtain ⟨n, e⟩ := own_small (w := ((x.toUInt32 >>> ((2 : Int32) &&& 31).toUInt32).toInt32) % (5 : Int32)) (N := 5) (by omega) (by omega)
  rw [e]; clear e h h1 h2; revert n; decide
theorem d5_0 : decode jdk_29_method_65_code 0 = .ok (.iload_n 0, 1) := by decide +kernel
theorem d5_1 : decode jdk_29_method_65_code 1 = .ok (.iload_n 1, 1) := by decide +kernel
theorem d5_2 : decode jdk_29_method_65_code 2 = .ok (.if_icmp .lt 7, 3) := by decide +kernel
theorem d5_5 : decode jdk_29_method_65_code 5 = .ok (.iload_n 0, 1) := by decide +kernel
theorem d5_6 : decode jdk_29_method_65_code 6 = .ok (.goto 4, 3) := by decide +kernel
theorem d5_9 : decode jdk_29_method_65_code 9 = .ok (.iload_n 1, 1) := by decide +kernel
theorem d5_10 : decode jdk_29_method_65_code 10 = .ok (.ireturn, 1) := by decide +kernel
theorem ef_rmMax (m : MethodId) (x0 : Int32) (x1 : Int32) : entryFrame m #[(.int x0), (.int x1)] 2 = mkF m 0 #[.val (.int x0), .val (.int x1)] [] := by first | (simp [entryFrame, mkF, argsToLocals, Value.category]; done) | rfl
def Q_rmMax (Z : State) (i0 : Int32) (i1 : Int32) (h0 : Heap) (n0 : Nat) (v : Option Value) (h : Heap) (L : List Loc) : Prop := v = some (.int (own_max i0 i1)) ∧ Fr n0 L ∧ h = h0
set_option maxRecDepth 65536 in
set_option maxHeartbeats 40000000 in
theorem rmMax (l : Launch) (Z : State) (a0 : Array Value) (hw : ∀ d ∈ tables_1, d.before a0 Z = true) (ws : List Jvm.Cond) (i0 : Int32) (i1 : Int32) (h0 : Heap) (n0 : Nat) (Z0 : n0 ≤ h0.size)  :
    MetFree l (⟨"java/lang/Math", "max", "(II)I"⟩ : MethodName) (head1 (Jvm.Cond.code (⟨"java/lang/Math", "max", "(II)I"⟩ : MethodName) jdk_29_method_65_code 2 (some .int) :: ws) ({ frames := 0, cells := 0, slots := 0, locals := 0 } : Room)) (fun a U => a = #[(.int i0), (.int i1)] ∧ Z.Warmed39 U.vm ∧ U.heap = h0) (fun _ _ _ _ _ => True) (fun _ U o U' => ∃ v L, o = .returned v ∧ Q_rmMax Z i0 i1 h0 n0 v U'.heap L ∧ FrameEnd U o U' L ({ frames := 0, cells := 0, slots := 0, locals := 0 } : Room).cells ({ frames := 0, cells := 0, slots := 0, locals := 0 } : Room).slots) := by
  refine MetFree.of_bodySF (Jvm.Free.JP.mathPlain rfl (by decide +kernel)) hisR ?_
  intro p e s m args below meth c s₁ Bd hml0 hP hK
  obtain ⟨rfl, hZ, hh⟩ := hP
  have hx := Bd.exec
  have hby := Bd.bytes
  have hml : c.maxLocals = 2 := hml0
  have hown : s.vm.findClass "java/lang/Math" = some m.cls := findClass_of_methodNamed Bd.named
  have hnm := (name_of_methodNamed Bd.named Bd.method).1
  have X0 : Stand p l e ({ frames := 0, cells := 0, slots := 0, locals := 0 } : Room) s m #[(.int i0), (.int i1)] below meth c s₁ [] 0 0 := Stand.of_body Bd
  have e0 : s₁.heap = h0 := by rw [← hh, Bd.state]; rfl
  show own_Go p e below (s₁.setTop (entryFrame m #[(.int i0), (.int i1)] 2)) (fun t o => ∃ v L, o = .returned v ∧ Q_rmMax Z i0 i1 h0 n0 v t.heap L ∧ FrameEnd s o t L ({ frames := 0, cells := 0, slots := 0, locals := 0 } : Room).cells ({ frames := 0, cells := 0, slots := 0, locals := 0 } : Room).slots)
  refine own_by (B := s₁.setTop (mkF m 0 #[.val (.int i0), .val (.int i1)] [])) (fun t k => castTop (ef_rmMax m i0 i1) k) ?_
  have Nf := Fr.nil n0
  have Zs := Z0
  refine own_by (B := s₁.setTop (mkF m 1 #[.val (.int i0), .val (.int i1)] [(.int i0)])) (fun t k => XS.iloadN X0.here hx rfl (hb hby d5_0) rfl k) ?_
  refine own_by (B := s₁.setTop (mkF m 2 #[.val (.int i0), .val (.int i1)] [(.int i1), (.int i0)])) (fun t k => XS.iloadN X0.here hx rfl (hb hby d5_1) rfl k) ?_
  by_cases hc2 : i0 < i1
  · refine own_by (B := s₁.setTop (mkF m 9 #[.val (.int i0), .val (.int i1)] [])) (fun t k => XS.icmpYes X0.here hx rfl (pc0 := 2) (pc' := 9) rfl (hb hby d5_2) rfl (tlt hc2).1 (by decide) (by decide) k) ?_
    refine own_by (B := s₁.setTop (mkF m 10 #[.val (.int i0), .val (.int i1)] [(.int i1)])) (fun t k => XS.iloadN X0.here hx rfl (hb hby d5_9) rfl k) ?_
    exact own_end X0 (v := some (.int i1)) (fun h => by rw [Bd.returns] at h; cases h) (BodyLoose.notSynchronized Bd) (Q := (Q_rmMax Z i0 i1 h0 n0)) (fun fs hr => retI X0 hx Bd.returns (hb hby d5_10) hr) (show (Q_rmMax Z i0 i1 h0 n0) _ s₁.heap _ from (by rw [e0]; exact ⟨congrArg (fun z => some (Value.int z)) (by simp [own_max, hc2]), Nf, rfl⟩)) (by decide) (by decide)
  · refine own_by (B := s₁.setTop (mkF m 5 #[.val (.int i0), .val (.int i1)] [])) (fun t k => XS.icmpNo X0.here hx rfl (hb hby d5_2) rfl (flt hc2).1 k) ?_
    refine own_by (B := s₁.setTop (mkF m 6 #[.val (.int i0), .val (.int i1)] [(.int i0)])) (fun t k => XS.iloadN X0.here hx rfl (hb hby d5_5) rfl k) ?_
    refine own_by (B := s₁.setTop (mkF m 10 #[.val (.int i0), .val (.int i1)] [(.int i0)])) (fun t k => XS.goto X0.here hx rfl (pc0 := 6) (pc' := 10) rfl (hb hby d5_6) (by decide) (by decide) k) ?_
    exact own_end X0 (v := some (.int i0)) (fun h => by rw [Bd.returns] at h; cases h) (BodyLoose.notSynchronized Bd) (Q := (Q_rmMax Z i0 i1 h0 n0)) (fun fs hr => retI X0 hx Bd.returns (hb hby d5_10) hr) (show (Q_rmMax Z i0 i1 h0 n0) _ s₁.heap _ from (by rw [e0]; exact ⟨congrArg (fun z => some (Value.int z)) (by simp [own_max, hc2]), Nf, rfl⟩)) (by decide) (by decide)
theorem d7_0 : decode jdk_29_method_69_code 0 = .ok (.iload_n 0, 1) := by decide +kernel
theorem d7_1 : decode jdk_29_method_69_code 1 = .ok (.iload_n 1, 1) := by decide +kernel
theorem d7_2 : decode jdk_29_method_69_code 2 = .ok (.if_icmp .gt 7, 3) := by decide +kernel
theorem d7_5 : decode jdk_29_method_69_code 5 = .ok (.iload_n 0, 1) := by decide +kernel
theorem d7_6 : decode jdk_29_method_69_code 6 = .ok (.goto 4, 3) := by decide +kernel
theorem d7_9 : decode jdk_29_method_69_code 9 = .ok (.iload_n 1, 1) := by decide +kernel
theorem d7_10 : decode jdk_29_method_69_code 10 = .ok (.ireturn, 1) := by decide +kernel
theorem ef_rmMin (m : MethodId) (x0 : Int32) (x1 : Int32) : entryFrame m #[(.int x0), (.int x1)] 2 = mkF m 0 #[.val (.int x0), .val (.int x1)] [] := by first | (simp [entryFrame, mkF, argsToLocals, Value.category]; done) | rfl
def Q_rmMin (Z : State) (i0 : Int32) (i1 : Int32) (h0 : Heap) (n0 : Nat) (v : Option Value) (h : Heap) (L : List Loc) : Prop := v = some (.int (own_min i0 i1)) ∧ Fr n0 L ∧ h = h0
set_option maxRecDepth 65536 in
set_option maxHeartbeats 40000000 in
theorem rmMin (l : Launch) (Z : State) (a0 : Array Value) (hw : ∀ d ∈ tables_1, d.before a0 Z = true) (ws : List Jvm.Cond) (i0 : Int32) (i1 : Int32) (h0 : Heap) (n0 : Nat) (Z0 : n0 ≤ h0.size)  :
    MetFree l (⟨"java/lang/Math", "min", "(II)I"⟩ : MethodName) (head1 (Jvm.Cond.code (⟨"java/lang/Math", "min", "(II)I"⟩ : MethodName) jdk_29_method_69_code 2 (some .int) :: ws) ({ frames := 0, cells := 0, slots := 0, locals := 0 } : Room)) (fun a U => a = #[(.int i0), (.int i1)] ∧ Z.Warmed39 U.vm ∧ U.heap = h0) (fun _ _ _ _ _ => True) (fun _ U o U' => ∃ v L, o = .returned v ∧ Q_rmMin Z i0 i1 h0 n0 v U'.heap L ∧ FrameEnd U o U' L ({ frames := 0, cells := 0, slots := 0, locals := 0 } : Room).cells ({ frames := 0, cells := 0, slots := 0, locals := 0 } : Room).slots) := by
  refine MetFree.of_bodySF (Jvm.Free.JP.mathPlain rfl (by decide +kernel)) hisR ?_
  intro p e s m args below meth c s₁ Bd hml0 hP hK
  obtain ⟨rfl, hZ, hh⟩ := hP
  have hx := Bd.exec
  have hby := Bd.bytes
  have hml : c.maxLocals = 2 := hml0
  have hown : s.vm.findClass "java/lang/Math" = some m.cls := findClass_of_methodNamed Bd.named
  have hnm := (name_of_methodNamed Bd.named Bd.method).1
  have X0 : Stand p l e ({ frames := 0, cells := 0, slots := 0, locals := 0 } : Room) s m #[(.int i0), (.int i1)] below meth c s₁ [] 0 0 := Stand.of_body Bd
  have e0 : s₁.heap = h0 := by rw [← hh, Bd.state]; rfl
  show own_Go p e below (s₁.setTop (entryFrame m #[(.int i0), (.int i1)] 2)) (fun t o => ∃ v L, o = .returned v ∧ Q_rmMin Z i0 i1 h0 n0 v t.heap L ∧ FrameEnd s o t L ({ frames := 0, cells := 0, slots := 0, locals := 0 } : Room).cells ({ frames := 0, cells := 0, slots := 0, locals := 0 } : Room).slots)
  refine own_by (B := s₁.setTop (mkF m 0 #[.val (.int i0), .val (.int i1)] [])) (fun t k => castTop (ef_rmMin m i0 i1) k) ?_
  have Nf := Fr.nil n0
  have Zs := Z0
  refine own_by (B := s₁.setTop (mkF m 1 #[.val (.int i0), .val (.int i1)] [(.int i0)])) (fun t k => XS.iloadN X0.here hx rfl (hb hby d7_0) rfl k) ?_
  refine own_by (B := s₁.setTop (mkF m 2 #[.val (.int i0), .val (.int i1)] [(.int i1), (.int i0)])) (fun t k => XS.iloadN X0.here hx rfl (hb hby d7_1) rfl k) ?_
  by_cases hc2 : i1 < i0
  · refine own_by (B := s₁.setTop (mkF m 9 #[.val (.int i0), .val (.int i1)] [])) (fun t k => XS.icmpYes X0.here hx rfl (pc0 := 2) (pc' := 9) rfl (hb hby d7_2) rfl (tlt hc2).2.2.1 (by decide) (by decide) k) ?_
    refine own_by (B := s₁.setTop (mkF m 10 #[.val (.int i0), .val (.int i1)] [(.int i1)])) (fun t k => XS.iloadN X0.here hx rfl (hb hby d7_9) rfl k) ?_
    exact own_end X0 (v := some (.int i1)) (fun h => by rw [Bd.returns] at h; cases h) (BodyLoose.notSynchronized Bd) (Q := (Q_rmMin Z i0 i1 h0 n0)) (fun fs hr => retI X0 hx Bd.returns (hb hby d7_10) hr) (show (Q_rmMin Z i0 i1 h0 n0) _ s₁.heap _ from (by rw [e0]; exact ⟨congrArg (fun z => some (Value.int z)) (by simp [own_min, hc2]), Nf, rfl⟩)) (by decide) (by decide)
  · refine own_by (B := s₁.setTop (mkF m 5 #[.val (.int i0), .val (.int i1)] [])) (fun t k => XS.icmpNo X0.here hx rfl (hb hby d7_2) rfl (flt hc2).2.2.1 k) ?_
    refine own_by (B := s₁.setTop (mkF m 6 #[.val (.int i0), .val (.int i1)] [(.int i0)])) (fun t k => XS.iloadN X0.here hx rfl (hb hby d7_5) rfl k) ?_
    refine own_by (B := s₁.setTop (mkF m 10 #[.val (.int i0), .val (.int i1)] [(.int i0)])) (fun t k => XS.goto X0.here hx rfl (pc0 := 6) (pc' := 10) rfl (hb hby d7_6) (by decide) (by decide) k) ?_
    exact own_end X0 (v := some (.int i0)) (fun h => by rw [Bd.returns] at h; cases h) (BodyLoose.notSynchronized Bd) (Q := (Q_rmMin Z i0 i1 h0 n0)) (fun fs hr => retI X0 hx Bd.returns (hb hby d7_10) hr) (show (Q_rmMin Z i0 i1 h0 n0) _ s₁.heap _ from (by rw [e0]; exact ⟨congrArg (fun z => some (Value.int z)) (by simp [own_min, hc2]), Nf, rfl⟩)) (by decide) (by decide)
theorem own_vals {mz mk : Nat} {f : Nat → Value} (hlt : mz < mk) (hk : mk < 2 ^ 31) (i : Nat) : ((List.map (fun x => defaultValue FieldType.int) (List.range (Int32.ofNat mk).toNatClampNeg)).take (Int32.toNatClampNeg 0) ++ List.map (fun i => (List.map f (List.range (Int32.ofNat mz).toNatClampNeg)).getD ((Int32.toNatClampNeg 0) + i) (.int 0)) (List.range (Int32.ofNat mz).toNatClampNeg) ++ (List.map (fun x => defaultValue FieldType.int) (List.range (Int32.ofNat mk).toNatClampNeg)).drop ((Int32.toNatClampNeg 0) + (Int32.ofNat mz).toNatClampNeg)).getD i (.int 0) = if i < mz then f i else .int 0 := by
  rw [own_tn (show mz < 2 ^ 31 by omega), own_tn hk, show Int32.toNatClampNeg 0 = 0 from rfl]
  simp only [List.take_zero, List.nil_append, Nat.zero_add]
  by_cases h : i < mz
  · rw [if_pos h]; simp [List.getD, List.getElem?_append, h]
  · rw [if_neg h]
    have : (Value.int 0) = defaultValue FieldType.int := rfl
    simp only [List.getD, List.getElem?_append, List.length_map, List.length_range, h, if_false, List.getElem?_drop, List.getElem?_map]
    by_cases h2 : i < mk
    · rw [List.getElem?_range (by omega)]; rfl
    · rw [List.getElem?_eq_none (by simp; omega)]; rfl
theorem own_pd0 : parseMethodDescriptor "(II)I" = some ⟨[.int, .int], some .int⟩ := by decide +kernel
theorem d6_0 : decode jdk_65_method_123_code 0 = .ok (.iload_n 1, 1) := by decide +kernel
theorem d6_1 : decode jdk_65_method_123_code 1 = .ok (.aload_n 0, 1) := by decide +kernel
theorem d6_2 : decode jdk_65_method_123_code 2 = .ok (.arraylength, 1) := by decide +kernel
theorem d6_3 : decode jdk_65_method_123_code 3 = .ok (.if_icmp .ne 11, 3) := by decide +kernel
theorem d6_14 : decode jdk_65_method_123_code 14 = .ok (.iload_n 1, 1) := by decide +kernel
theorem d6_15 : decode jdk_65_method_123_code 15 = .ok (.newarray .int, 2) := by decide +kernel
theorem d6_17 : decode jdk_65_method_123_code 17 = .ok (.astore_n 2, 1) := by decide +kernel
theorem d6_18 : decode jdk_65_method_123_code 18 = .ok (.aload_n 0, 1) := by decide +kernel
theorem d6_19 : decode jdk_65_method_123_code 19 = .ok (.iconst 0, 1) := by decide +kernel
theorem d6_20 : decode jdk_65_method_123_code 20 = .ok (.aload_n 2, 1) := by decide +kernel
theorem d6_21 : decode jdk_65_method_123_code 21 = .ok (.iconst 0, 1) := by decide +kernel
theorem d6_22 : decode jdk_65_method_123_code 22 = .ok (.aload_n 0, 1) := by decide +kernel
theorem d6_23 : decode jdk_65_method_123_code 23 = .ok (.arraylength, 1) := by decide +kernel
theorem d6_24 : decode jdk_65_method_123_code 24 = .ok (.iload_n 1, 1) := by decide +kernel
theorem d6_25 : decode jdk_65_method_123_code 25 = .ok (.invokestatic 304, 3) := by decide +kernel
theorem d6_28 : decode jdk_65_method_123_code 28 = .ok (.invokestatic 150, 3) := by decide +kernel
theorem d6_31 : decode jdk_65_method_123_code 31 = .ok (.aload_n 2, 1) := by decide +kernel
theorem d6_32 : decode jdk_65_method_123_code 32 = .ok (.areturn, 1) := by decide +kernel
theorem own_pn0 : plainName "java/util/Arrays" = true := by first | (simp [plainName, overriddenIn]; done) | decide +kernel
theorem ef_rmC (m : MethodId) (x0 : Addr) (x1 : Int32) : entryFrame m #[(.ref x0), (.int x1)] 3 = mkF m 0 #[.val (.ref x0), .val (.int x1), .unset] [] := by first | (simp [entryFrame, mkF, argsToLocals, Value.category]; done) | rfl
def Q_rmC (Z : State) (r0 : Addr) (mz mk : Nat) (f : Nat → Value) (h0 : Heap) (n0 : Nat) (v : Option Value) (h : Heap) (L : List Loc) : Prop := v = some (.ref h0.size) ∧ Fr n0 L ∧ Keep h0 h [] ∧ ∃ g, own_Arf Z h h0.size .int (Int32.ofNat mk) g ∧ (∀ i, i < mz → g i = f i) ∧ (∀ i, i < mk → ∃ x, g i = .int x)
set_option maxRecDepth 65536 in
set_option maxHeartbeats 40000000 in
theorem rmC (l : Launch) (Z : State) (a0 : Array Value) (hw : ∀ d ∈ tables_1, d.before a0 Z = true) (ws : List Jvm.Cond) (r0 : Addr) (mz mk : Nat) (f : Nat → Value) (h0 : Heap) (n0 : Nat) (Z0 : n0 ≤ h0.size) (V_r0 : own_Arf Z h0 r0 .int (Int32.ofNat mz) f) (hint : ∀ i, i < mz → ∃ x, f i = .int x) (hlt : mz < mk) (hk12 : mk ≤ 12) :
    MetFree l (⟨"java/util/Arrays", "copyOf", "([II)[I"⟩ : MethodName) (head1 (Jvm.Cond.code (⟨"java/util/Arrays", "copyOf", "([II)[I"⟩ : MethodName) jdk_65_method_123_code 3 (some (.array .int)) :: ws) ({ frames := 1, cells := 1, slots := 12, locals := 18 } : Room)) (fun a U => a = #[(.ref r0), (.int (Int32.ofNat mk))] ∧ Z.Warmed39 U.vm ∧ U.heap = h0) (fun _ _ _ _ _ => True) (fun _ U o U' => ∃ v L, o = .returned v ∧ Q_rmC Z r0 mz mk f h0 n0 v U'.heap L ∧ FrameEnd U o U' L ({ frames := 1, cells := 1, slots := 12, locals := 18 } : Room).cells ({ frames := 1, cells := 1, slots := 12, locals := 18 } : Room).slots) := by
  refine MetFree.of_bodySF (plainFor_of_name own_pn0) hisR ?_
  intro p e s m args below meth c s₁ Bd hml0 hP hK
  obtain ⟨rfl, hZ, hh⟩ := hP
  have hx := Bd.exec
  have hby := Bd.bytes
  have hml : c.maxLocals = 3 := hml0
  have hown : s.vm.findClass "java/util/Arrays" = some m.cls := findClass_of_methodNamed Bd.named
  have hnm := (name_of_methodNamed Bd.named Bd.method).1
  have X0 : Stand p l e ({ frames := 1, cells := 1, slots := 12, locals := 18 } : Room) s m #[(.ref r0), (.int (Int32.ofNat mk))] below meth c s₁ [] 0 0 := Stand.of_body Bd
  have e0 : s₁.heap = h0 := by rw [← hh, Bd.state]; rfl
  show own_Go p e below (s₁.setTop (entryFrame m #[(.ref r0), (.int (Int32.ofNat mk))] 3)) (fun t o => ∃ v L, o = .returned v ∧ Q_rmC Z r0 mz mk f h0 n0 v t.heap L ∧ FrameEnd s o t L ({ frames := 1, cells := 1, slots := 12, locals := 18 } : Room).cells ({ frames := 1, cells := 1, slots := 12, locals := 18 } : Room).slots)
  refine own_by (B := s₁.setTop (mkF m 0 #[.val (.ref r0), .val (.int (Int32.ofNat mk)), .unset] [])) (fun t k => castTop (ef_rmC m r0 (Int32.ofNat mk)) k) ?_
  have Nf := Fr.nil n0
  have Zs := Z0
  have Kp := Keep.refl h0 []
  refine own_by (B := s₁.setTop (mkF m 1 #[.val (.ref r0), .val (.int (Int32.ofNat mk)), .unset] [(.int (Int32.ofNat mk))])) (fun t k => XS.iloadN X0.here hx rfl (hb hby d6_0) rfl k) ?_
  refine own_by (B := s₁.setTop (mkF m 2 #[.val (.ref r0), .val (.int (Int32.ofNat mk)), .unset] [(.ref r0), (.int (Int32.ofNat mk))])) (fun t k => XS.aloadN X0.here hx rfl (hb hby d6_1) rfl rfl k) ?_
  obtain ⟨cl1, Ar1, Sz1, Ng1, -⟩ := id V_r0
  refine own_by (B := s₁.setTop (mkF m 3 #[.val (.ref r0), .val (.int (Int32.ofNat mk)), .unset] [(.int (Int32.ofNat mz)), (.int (Int32.ofNat mk))])) (fun t k => X0.arraylength hx (by rw [e0]; exact Ar1.1) (State.isArrayOf_alike hZ.alike Ar1.2.1) (g := (mkF m 2 #[.val (.ref r0), .val (.int (Int32.ofNat mk)), .unset] [(.ref r0), (.int (Int32.ofNat mk))])) rfl rfl (hb hby d6_2) _ (by rw [len_of Sz1 Ng1]; exact k)) ?_
  refine own_by (B := s₁.setTop (mkF m 14 #[.val (.ref r0), .val (.int (Int32.ofNat mk)), .unset] [])) (fun t k => XS.icmpYes X0.here hx rfl (pc0 := 3) (pc' := 14) rfl (hb hby d6_3) rfl (feq (fun q => absurd (own_injN (by omega) (by omega) q) (by omega))).2 (by decide) (by decide) k) ?_
  refine own_by (B := s₁.setTop (mkF m 15 #[.val (.ref r0), .val (.int (Int32.ofNat mk)), .unset] [(.int (Int32.ofNat mk))])) (fun t k => XS.iloadN X0.here hx rfl (hb hby d6_14) rfl k) ?_
  obtain ⟨T2, h2, k2, X2, e2, E2, A2, st2⟩ := newP X0 hx hZ (hw _ (List.mem_of_getElem? (i := 9) rfl)) e0 (g := (mkF m 15 #[.val (.ref r0), .val (.int (Int32.ofNat mk)), .unset] [(.int (Int32.ofNat mk))])) rfl (hb hby d6_15) rfl (own_nn (by omega)) (cap := 12) (by rw [own_tn (by omega)]; exact hk12) (by decide) (by decide) (by decide)
  obtain ⟨b2, gq2⟩ : ∃ z, z = h0.size := ⟨_, rfl⟩
  rw [← gq2] at A2 st2
  have ne_r0_b2 : r0 ≠ b2 := Nat.ne_of_lt (Nat.lt_of_lt_of_le V_r0.lt (Nat.le_of_eq gq2.symm))
  have g_b2 : n0 ≤ b2 := Nat.le_trans Zs (Nat.le_of_eq gq2.symm)
  have sz_b2 : h0.size ≤ b2 := Nat.le_trans Kp.1 (Nat.le_of_eq gq2.symm)
  have V_r0 := V_r0.ext E2
  have Zs := Nat.le_trans Zs E2.1
  have Kp := Kp.ext E2
  have V_b2 := own_Arf.new A2 (own_nn (by omega))
  refine own_by (B := T2.setTop (mkF m 17 #[.val (.ref r0), .val (.int (Int32.ofNat mk)), .unset] [(.ref b2)])) st2 ?_
  refine own_by (B := T2.setTop (mkF m 18 #[.val (.ref r0), .val (.int (Int32.ofNat mk)), .val (.ref b2)] [])) (fun t k => XS.astoreN X2.here hx rfl (hb hby d6_17) rfl rfl (l' := #[.val (.ref r0), .val (.int (Int32.ofNat mk)), .val (.ref b2)]) rfl k) ?_
  refine own_by (B := T2.setTop (mkF m 19 #[.val (.ref r0), .val (.int (Int32.ofNat mk)), .val (.ref b2)] [(.ref r0)])) (fun t k => XS.aloadN X2.here hx rfl (hb hby d6_18) rfl rfl k) ?_
  refine own_by (B := T2.setTop (mkF m 20 #[.val (.ref r0), .val (.int (Int32.ofNat mk)), .val (.ref b2)] [(.int (0 : Int32)), (.ref r0)])) (fun t k => XS.iconst X2.here hx rfl (hb hby d6_19) k) ?_
  refine own_by (B := T2.setTop (mkF m 21 #[.val (.ref r0), .val (.int (Int32.ofNat mk)), .val (.ref b2)] [(.ref b2), (.int (0 : Int32)), (.ref r0)])) (fun t k => XS.aloadN X2.here hx rfl (hb hby d6_20) rfl rfl k) ?_
  refine own_by (B := T2.setTop (mkF m 22 #[.val (.ref r0), .val (.int (Int32.ofNat mk)), .val (.ref b2)] [(.int (0 : Int32)), (.ref b2), (.int (0 : Int32)), (.ref r0)])) (fun t k => XS.iconst X2.here hx rfl (hb hby d6_21) k) ?_
  refine own_by (B := T2.setTop (mkF m 23 #[.val (.ref r0), .val (.int (Int32.ofNat mk)), .val (.ref b2)] [(.ref r0), (.int (0 : Int32)), (.ref b2), (.int (0 : Int32)), (.ref r0)])) (fun t k => XS.aloadN X2.here hx rfl (hb hby d6_22) rfl rfl k) ?_
  obtain ⟨cl3, Ar3, Sz3, Ng3, -⟩ := id V_r0
  refine own_by (B := T2.setTop (mkF m 24 #[.val (.ref r0), .val (.int (Int32.ofNat mk)), .val (.ref b2)] [(.int (Int32.ofNat mz)), (.int (0 : Int32)), (.ref b2), (.int (0 : Int32)), (.ref r0)])) (fun t k => X2.arraylength hx (by rw [e2]; exact Ar3.1) (State.isArrayOf_alike hZ.alike Ar3.2.1) (g := (mkF m 23 #[.val (.ref r0), .val (.int (Int32.ofNat mk)), .val (.ref b2)] [(.ref r0), (.int (0 : Int32)), (.ref b2), (.int (0 : Int32)), (.ref r0)])) rfl rfl (hb hby d6_23) _ (by rw [len_of Sz3 Ng3]; exact k)) ?_
  refine own_by (B := T2.setTop (mkF m 25 #[.val (.ref r0), .val (.int (Int32.ofNat mk)), .val (.ref b2)] [(.int (Int32.ofNat mk)), (.int (Int32.ofNat mz)), (.int (0 : Int32)), (.ref b2), (.int (0 : Int32)), (.ref r0)])) (fun t k => XS.iloadN X2.here hx rfl (hb hby d6_24) rfl k) ?_
  obtain ⟨_, _, ⟨T4, L4, k4, n4⟩, -, X4, ⟨Lc4, hQ4, l4, y4, z4⟩, st4⟩ := Jvm.LawKit.callS X2 hx (y := (⟨"java/lang/Math", "min", "(II)I"⟩ : MethodName)) hown (mvT hZ (hw _ (List.mem_of_getElem? (i := 32) rfl))) (mvT hZ (hw _ (List.mem_of_getElem? (i := 33) rfl))) (mvT hZ (hw _ (List.mem_of_getElem? (i := 26) rfl))) (mvT hZ (hw _ (List.mem_of_getElem? (i := 34) rfl))) (by decide) (backOf (W := 4) (rmMin l Z a0 hw [] (Int32.ofNat mz) (Int32.ofNat mk) h2 n0 Zs) hZ (hw _ (List.mem_of_getElem? (i := 34) rfl)) (hw _ (List.mem_of_getElem? (i := 26) rfl)) (by decide) (by decide)) (g := (mkF m 25 #[.val (.ref r0), .val (.int (Int32.ofNat mk)), .val (.ref b2)] [(.int (Int32.ofNat mk)), (.int (Int32.ofNat mz)), (.int (0 : Int32)), (.ref b2), (.int (0 : Int32)), (.ref r0)])) rfl (by rw [hml]; rfl) (argsL := [(.int (Int32.ofNat mz)), (.int (Int32.ofNat mk))]) (rest := [(.int (0 : Int32)), (.ref b2), (.int (0 : Int32)), (.ref r0)]) (lenOf own_pd0 rfl) rfl (by show 2 * 0 + _ ≤ _; exact Nat.le_of_eq rfl) (hb hby d6_25) (fun _ _ => ⟨rfl, e2, (by decide : 1 + 0 ≤ _), (by decide : 12 + 0 ≤ _)⟩)
  dsimp only [Pt.U, Pt.locs, Pt.cells, Pt.slots] at X4 l4 y4 z4 st4 hQ4
  subst l4 y4 z4
  obtain ⟨rfl, Nq4, hp4⟩ := hQ4
  have Nf := Fr.app Nf Nq4
  have ec4 : T4.heap = h2 := hp4
  refine own_by (B := T4.setTop (mkF m 28 #[.val (.ref r0), .val (.int (Int32.ofNat mk)), .val (.ref b2)] [(.int (own_min (Int32.ofNat mz) (Int32.ofNat mk))), (.int (0 : Int32)), (.ref b2), (.int (0 : Int32)), (.ref r0)])) st4 ?_
  rw [show (own_min (Int32.ofNat mz) (Int32.ofNat mk)) = (Int32.ofNat mz) from own_minN hlt (by omega)]
  obtain ⟨ks, As⟩ := V_r0.arv (fun i hi => by obtain ⟨x, hx0⟩ := hint i (by rw [own_tn (by omega)] at hi; exact hi); rw [hx0]; rfl) (.int 0)
  obtain ⟨kd, Ad⟩ := V_b2.arv (fun i hi => rfl) (.int 0)
  have tm : (Int32.ofNat mz).toNatClampNeg = mz := own_tn (by omega)
  have tk : (Int32.ofNat mk).toNatClampNeg = mk := own_tn (by omega)
  obtain ⟨T5, h5, L5, X5, e5, Nf, Kx5, Vx5, st5⟩ := cpA X4 hx hZ hown (hw _ (List.mem_of_getElem? (i := 35) rfl)) (hw _ (List.mem_of_getElem? (i := 38) rfl)) (hw _ (List.mem_of_getElem? (i := 36) rfl)) (hw _ (List.mem_of_getElem? (i := 37) rfl)) ec4 As Ad (Or.inl ⟨rfl, rfl⟩) (sp := (0 : Int32)) (dp := (0 : Int32)) (nn := Int32.ofNat mz) (by decide) (by decide) (own_nn (by omega)) (by rw [tm]; show 0 + mz ≤ mz; omega) (by rw [tm, tk]; show 0 + mz ≤ mk; omega) rfl (by rw [tm]; simp only [List.length_map, List.length_range, tk]; show 0 + mz ≤ mk; omega) Nf g_b2 (g := (mkF m 28 #[.val (.ref r0), .val (.int (Int32.ofNat mk)), .val (.ref b2)] [(.int (Int32.ofNat mz)), (.int (0 : Int32)), (.ref b2), (.int (0 : Int32)), (.ref r0)])) rfl (by rw [hml]; rfl) rfl (hb hby d6_28) (by decide) (W := 0) (by show 2 * 0 + _ ≤ _; exact Nat.le_of_eq rfl) (by decide)
  have V_r0 := V_r0.keep Kx5 (ninS ne_r0_b2 nin0)
  have Zs := Nat.le_trans Zs Kx5.1
  have Kp := Kp.trans Kx5 (allS (Or.inr sz_b2) all0)
  have V_b2 := own_Arf.of Vx5
  refine own_by (B := T5.setTop (mkF m 31 #[.val (.ref r0), .val (.int (Int32.ofNat mk)), .val (.ref b2)] [])) st5 ?_
  refine own_by (B := T5.setTop (mkF m 32 #[.val (.ref r0), .val (.int (Int32.ofNat mk)), .val (.ref b2)] [(.ref b2)])) (fun t k => XS.aloadN X5.here hx rfl (hb hby d6_31) rfl rfl k) ?_
  have hv : ∀ i, ((List.map (fun x => defaultValue FieldType.int) (List.range (Int32.ofNat mk).toNatClampNeg)).take (Int32.toNatClampNeg 0) ++ List.map (fun i => (List.map f (List.range (Int32.ofNat mz).toNatClampNeg)).getD ((Int32.toNatClampNeg 0) + i) (.int 0)) (List.range (Int32.ofNat mz).toNatClampNeg) ++ (List.map (fun x => defaultValue FieldType.int) (List.range (Int32.ofNat mk).toNatClampNeg)).drop ((Int32.toNatClampNeg 0) + (Int32.ofNat mz).toNatClampNeg)).getD i (.int 0) = if i < mz then f i else .int 0 := own_vals hlt (by omega)
  refine own_end X5 (v := some (.ref b2)) (fun h => by rw [Bd.returns] at h; cases h) (BodyLoose.notSynchronized Bd) (Q := (Q_rmC Z r0 mz mk f h0 n0)) (fun fs hr => retOut X5 hx (t := (.array .int)) Bd.returns rfl (Or.inr (Or.inr (Or.inr (Or.inr ⟨rfl, rfl, rfl⟩)))) (hb hby d6_32) hr) (show (Q_rmC Z r0 mz mk f h0 n0) _ T5.heap _ from ?_) (by decide) (by decide)
  rw [e5]
  refine ⟨by rw [gq2], Nf, Kp, _, by rw [← gq2]; exact V_b2, fun i hi => ?_, fun i hi => ?_⟩
  · exact (hv i).trans (if_pos hi)
  · refine Exists.imp (fun x q => (hv i).trans q) ?_
    by_cases hi2 : i < mz
    · rw [if_pos hi2]; exact hint i hi2
    · rw [if_neg hi2]; exact ⟨0, rfl⟩
theorem d1_0 : decode prog_20_method_2_code 0 = .ok (.aload_n 0, 1) := by decide +kernel
theorem d1_1 : decode prog_20_method_2_code 1 = .ok (.invokespecial 7, 3) := by decide +kernel
theorem d1_4 : decode prog_20_method_2_code 4 = .ok (.aload_n 0, 1) := by decide +kernel
theorem d1_5 : decode prog_20_method_2_code 5 = .ok (.iconst 2, 1) := by decide +kernel
theorem d1_6 : decode prog_20_method_2_code 6 = .ok (.iload_n 1, 1) := by decide +kernel
theorem d1_7 : decode prog_20_method_2_code 7 = .ok (.imul, 1) := by decide +kernel
theorem d1_8 : decode prog_20_method_2_code 8 = .ok (.newarray .int, 2) := by decide +kernel
theorem d1_10 : decode prog_20_method_2_code 10 = .ok (.putfield 12, 3) := by decide +kernel
theorem d1_13 : decode prog_20_method_2_code 13 = .ok (.return_, 1) := by decide +kernel
theorem own_pn1 : plainName "com/example/surrogate/surrogate/index/Entries" = true := by first | (simp [plainName, overriddenIn]; done) | decide +kernel
theorem ef_rmI (m : MethodId) (x0 : Addr) (x1 : Int32) : entryFrame m #[(.ref x0), (.int x1)] 2 = mkF m 0 #[.val (.ref x0), .val (.int x1)] [] := by first | (simp [entryFrame, mkF, argsToLocals, Value.category]; done) | rfl
def Q_rmI (Z : State) (r0 : Addr) (cap : Nat) (h0 : Heap) (n0 : Nat) (v : Option Value) (h : Heap) (L : List Loc) : Prop := v = none ∧ Fr n0 L ∧ Keep h0 h [r0] ∧ Fld Z h r0 "com/example/surrogate/surrogate/index/Entries" "size" "I" (.int (0 : Int32)) ∧ ∃ b f, n0 ≤ b ∧ r0 ≠ b ∧ Fld Z h r0 "com/example/surrogate/surrogate/index/Entries" "entries" "[I" (.ref b) ∧ own_Arf Z h b .int (Int32.ofNat (2 * cap)) f ∧ ∀ i, f i = .int 0
set_option maxRecDepth 65536 in
set_option maxHeartbeats 40000000 in
theorem rmI (l : Launch) (Z : State) (a0 : Array Value) (hw : ∀ d ∈ tables_1, d.before a0 Z = true) (ws : List Jvm.Cond) (r0 : Addr) (cap : Nat) (h0 : Heap) (n0 : Nat) (Z0 : n0 ≤ h0.size) (E_r0 : Exa Z h0 r0 "com/example/surrogate/surrogate/index/Entries") (F_size_r0 : Fld Z h0 r0 "com/example/surrogate/surrogate/index/Entries" "size" "I" (.int (0 : Int32))) (F_entries_r0 : Fld Z h0 r0 "com/example/surrogate/surrogate/index/Entries" "entries" "[I" .null) (g_r0 : n0 ≤ r0) (hcap : cap ≤ 3) :
    MetFree l (⟨"com/example/surrogate/surrogate/index/Entries", "<init>", "(I)V"⟩ : MethodName) (head1 (Jvm.Cond.code (⟨"com/example/surrogate/surrogate/index/Entries", "<init>", "(I)V"⟩ : MethodName) prog_20_method_2_code 2 none :: ws) ({ frames := 1, cells := 1, slots := 6, locals := 12 } : Room)) (fun a U => a = #[(.ref r0), (.int (Int32.ofNat cap))] ∧ Z.Warmed39 U.vm ∧ U.heap = h0) (fun _ _ _ _ _ => True) (fun _ U o U' => ∃ v L, o = .returned v ∧ Q_rmI Z r0 cap h0 n0 v U'.heap L ∧ FrameEnd U o U' L ({ frames := 1, cells := 1, slots := 6, locals := 12 } : Room).cells ({ frames := 1, cells := 1, slots := 6, locals := 12 } : Room).slots) := by
  refine MetFree.of_bodySF (plainFor_of_name own_pn1) hisR ?_
  intro p e s m args below meth c s₁ Bd hml0 hP hK
  obtain ⟨rfl, hZ, hh⟩ := hP
  have hx := Bd.exec
  have hby := Bd.bytes
  have hml : c.maxLocals = 2 := hml0
  have hown : s.vm.findClass "com/example/surrogate/surrogate/index/Entries" = some m.cls := findClass_of_methodNamed Bd.named
  have hnm := (name_of_methodNamed Bd.named Bd.method).1
  have X0 : Stand p l e ({ frames := 1, cells := 1, slots := 6, locals := 12 } : Room) s m #[(.ref r0), (.int (Int32.ofNat cap))] below meth c s₁ [] 0 0 := Stand.of_body Bd
  have e0 : s₁.heap = h0 := by rw [← hh, Bd.state]; rfl
  show own_Go p e below (s₁.setTop (entryFrame m #[(.ref r0), (.int (Int32.ofNat cap))] 2)) (fun t o => ∃ v L, o = .returned v ∧ Q_rmI Z r0 cap h0 n0 v t.heap L ∧ FrameEnd s o t L ({ frames := 1, cells := 1, slots := 6, locals := 12 } : Room).cells ({ frames := 1, cells := 1, slots := 6, locals := 12 } : Room).slots)
  refine own_by (B := s₁.setTop (mkF m 0 #[.val (.ref r0), .val (.int (Int32.ofNat cap))] [])) (fun t k => castTop (ef_rmI m r0 (Int32.ofNat cap)) k) ?_
  have Nf := Fr.nil n0
  have Zs := Z0
  have Kp := Keep.refl h0 [r0]
  refine own_by (B := s₁.setTop (mkF m 1 #[.val (.ref r0), .val (.int (Int32.ofNat cap))] [(.ref r0)])) (fun t k => XS.aloadN X0.here hx rfl (hb hby d1_0) rfl rfl k) ?_
  obtain ⟨T1, X1, e1, st1⟩ := initO X0 hx hZ hown (hw _ (List.mem_of_getElem? (i := 6) rfl)) (hw _ (List.mem_of_getElem? (i := 7) rfl)) (hw _ (List.mem_of_getElem? (i := 8) rfl)) e0 (g := (mkF m 1 #[.val (.ref r0), .val (.int (Int32.ofNat cap))] [(.ref r0)])) rfl (by rw [hml]; rfl) rfl (hb hby d1_1) (by decide) (W := 0) (by show 2 * 0 + _ ≤ _; exact Nat.le_of_eq rfl) (by decide)
  refine own_by (B := T1.setTop (mkF m 4 #[.val (.ref r0), .val (.int (Int32.ofNat cap))] [])) st1 ?_
  refine own_by (B := T1.setTop (mkF m 5 #[.val (.ref r0), .val (.int (Int32.ofNat cap))] [(.ref r0)])) (fun t k => XS.aloadN X1.here hx rfl (hb hby d1_4) rfl rfl k) ?_
  refine own_by (B := T1.setTop (mkF m 6 #[.val (.ref r0), .val (.int (Int32.ofNat cap))] [(.int (2 : Int32)), (.ref r0)])) (fun t k => XS.iconst X1.here hx rfl (hb hby d1_5) k) ?_
  refine own_by (B := T1.setTop (mkF m 7 #[.val (.ref r0), .val (.int (Int32.ofNat cap))] [(.int (Int32.ofNat cap)), (.int (2 : Int32)), (.ref r0)])) (fun t k => XS.iloadN X1.here hx rfl (hb hby d1_6) rfl k) ?_
  refine own_by (B := T1.setTop (mkF m 8 #[.val (.ref r0), .val (.int (Int32.ofNat cap))] [(.int ((2 : Int32) * (Int32.ofNat cap))), (.ref r0)])) (fun t k => XS.imul X1.here hx rfl (hb hby d1_7) rfl k) ?_
  rw [show ((2 : Int32) * (Int32.ofNat cap)) = (Int32.ofNat (2 * cap)) from own_m2 cap]
  obtain ⟨T2, h2, k2, X2, e2, E2, A2, st2⟩ := newP X1 hx hZ (hw _ (List.mem_of_getElem? (i := 9) rfl)) e1 (g := (mkF m 8 #[.val (.ref r0), .val (.int (Int32.ofNat cap))] [(.int (Int32.ofNat (2 * cap))), (.ref r0)])) rfl (hb hby d1_8) rfl (own_nn (by omega)) (cap := 6) (by rw [own_tn (by omega)]; omega) (by decide) (by decide) (by decide)
  obtain ⟨b2, gq2⟩ : ∃ z, z = h0.size := ⟨_, rfl⟩
  rw [← gq2] at A2 st2
  have ne_r0_b2 : r0 ≠ b2 := Nat.ne_of_lt (Nat.lt_of_lt_of_le E_r0.lt (Nat.le_of_eq gq2.symm))
  have g_b2 : n0 ≤ b2 := Nat.le_trans Zs (Nat.le_of_eq gq2.symm)
  have sz_b2 : h0.size ≤ b2 := Nat.le_trans Kp.1 (Nat.le_of_eq gq2.symm)
  have E_r0 := E_r0.ext E2
  have F_size_r0 := F_size_r0.ext E2
  have F_entries_r0 := F_entries_r0.ext E2
  have Zs := Nat.le_trans Zs E2.1
  have Kp := Kp.ext E2
  have V_b2 := own_Arf.new A2 (own_nn (by omega))
  refine own_by (B := T2.setTop (mkF m 10 #[.val (.ref r0), .val (.int (Int32.ofNat cap))] [(.ref b2), (.ref r0)])) st2 ?_
  obtain ⟨T3, h3, X3, e3, W3, st3⟩ := putF X2 hx hZ hown (host := "") (Or.inl (hw _ (List.mem_of_getElem? (i := 10) rfl))) Via.refl e2 F_entries_r0 E_r0 (Or.inl (hw _ (List.mem_of_getElem? (i := 11) rfl))) (hw _ (List.mem_of_getElem? (i := 1) rfl)) (ty := (.array .int)) (by decide) rfl rfl (g := (mkF m 10 #[.val (.ref r0), .val (.int (Int32.ofNat cap))] [(.ref b2), (.ref r0)])) rfl rfl (hb hby d1_10)
  have E_r0 := E_r0.wr W3
  have F_size_r0 := F_size_r0.other W3 (Or.inr (slot_ne (Or.inl (hw _ (List.mem_of_getElem? (i := 18) rfl))) (Or.inl (hw _ (List.mem_of_getElem? (i := 11) rfl))) (by decide) (t := .int) (t' := (.array .int)) (by decide) (by decide)))
  have F_entries_r0 := F_entries_r0.same W3
  have V_b2 := V_b2.other W3 (Ne.symm ne_r0_b2)
  have Zs : n0 ≤ h3.size := by rw [W3.size]; exact Zs
  have Kp := Kp.wr W3 (Or.inl (List.mem_of_getElem? (i := 0) rfl))
  have Nf := Fr.snoc X3 Nf g_r0
  refine own_by (B := T3.setTop (mkF m 13 #[.val (.ref r0), .val (.int (Int32.ofNat cap))] [])) st3 ?_
  exact own_end X3 (v := none) (fun _ => rfl) (BodyLoose.notSynchronized Bd) (Q := (Q_rmI Z r0 cap h0 n0)) (fun fs hr => X3.returnOut hx Bd.returns (hb hby d1_13) hr) (show (Q_rmI Z r0 cap h0 n0) _ T3.heap _ from (by rw [e3]; exact ⟨rfl, Nf, Kp, F_size_r0, b2, _, g_b2, ne_r0_b2, F_entries_r0, V_b2, fun i => rfl⟩)) (by decide) (by decide)
theorem own_pd1 : parseMethodDescriptor "([II)[I" = some ⟨[(.array .int), .int], some (.array .int)⟩ := by decide +kernel
theorem d4_0 : decode prog_20_method_3_code 0 = .ok (.iconst 2, 1) := by decide +kernel
theorem d4_1 : decode prog_20_method_3_code 1 = .ok (.aload_n 0, 1) := by decide +kernel
theorem d4_2 : decode prog_20_method_3_code 2 = .ok (.getfield 16, 3) := by decide +kernel
theorem d4_5 : decode prog_20_method_3_code 5 = .ok (.imul, 1) := by decide +kernel
theorem d4_6 : decode prog_20_method_3_code 6 = .ok (.aload_n 0, 1) := by decide +kernel
theorem d4_7 : decode prog_20_method_3_code 7 = .ok (.getfield 12, 3) := by decide +kernel
theorem d4_10 : decode prog_20_method_3_code 10 = .ok (.arraylength, 1) := by decide +kernel
theorem d4_11 : decode prog_20_method_3_code 11 = .ok (.if_icmp .ne 25, 3) := by decide +kernel
theorem d4_14 : decode prog_20_method_3_code 14 = .ok (.aload_n 0, 1) := by decide +kernel
theorem d4_15 : decode prog_20_method_3_code 15 = .ok (.aload_n 0, 1) := by decide +kernel
theorem d4_16 : decode prog_20_method_3_code 16 = .ok (.getfield 12, 3) := by decide +kernel
theorem d4_19 : decode prog_20_method_3_code 19 = .ok (.iconst 2, 1) := by decide +kernel
theorem d4_20 : decode prog_20_method_3_code 20 = .ok (.iconst 2, 1) := by decide +kernel
theorem d4_21 : decode prog_20_method_3_code 21 = .ok (.aload_n 0, 1) := by decide +kernel
theorem d4_22 : decode prog_20_method_3_code 22 = .ok (.getfield 12, 3) := by decide +kernel
theorem d4_25 : decode prog_20_method_3_code 25 = .ok (.arraylength, 1) := by decide +kernel
theorem d4_26 : decode prog_20_method_3_code 26 = .ok (.imul, 1) := by decide +kernel
theorem d4_27 : decode prog_20_method_3_code 27 = .ok (.invokestatic 20, 3) := by decide +kernel
theorem d4_30 : decode prog_20_method_3_code 30 = .ok (.invokestatic 26, 3) := by decide +kernel
theorem d4_33 : decode prog_20_method_3_code 33 = .ok (.putfield 12, 3) := by decide +kernel
theorem d4_36 : decode prog_20_method_3_code 36 = .ok (.aload_n 0, 1) := by decide +kernel
theorem d4_37 : decode prog_20_method_3_code 37 = .ok (.getfield 12, 3) := by decide +kernel
theorem d4_40 : decode prog_20_method_3_code 40 = .ok (.iconst 2, 1) := by decide +kernel
theorem d4_41 : decode prog_20_method_3_code 41 = .ok (.aload_n 0, 1) := by decide +kernel
theorem d4_42 : decode prog_20_method_3_code 42 = .ok (.getfield 16, 3) := by decide +kernel
theorem d4_45 : decode prog_20_method_3_code 45 = .ok (.imul, 1) := by decide +kernel
theorem d4_46 : decode prog_20_method_3_code 46 = .ok (.iload_n 1, 1) := by decide +kernel
theorem d4_47 : decode prog_20_method_3_code 47 = .ok (.iastore, 1) := by decide +kernel
theorem d4_48 : decode prog_20_method_3_code 48 = .ok (.aload_n 0, 1) := by decide +kernel
theorem d4_49 : decode prog_20_method_3_code 49 = .ok (.getfield 12, 3) := by decide +kernel
theorem d4_52 : decode prog_20_method_3_code 52 = .ok (.iconst 2, 1) := by decide +kernel
theorem d4_53 : decode prog_20_method_3_code 53 = .ok (.aload_n 0, 1) := by decide +kernel
theorem d4_54 : decode prog_20_method_3_code 54 = .ok (.getfield 16, 3) := by decide +kernel
theorem d4_57 : decode prog_20_method_3_code 57 = .ok (.imul, 1) := by decide +kernel
theorem d4_58 : decode prog_20_method_3_code 58 = .ok (.iconst 1, 1) := by decide +kernel
theorem d4_59 : decode prog_20_method_3_code 59 = .ok (.iadd, 1) := by decide +kernel
theorem d4_60 : decode prog_20_method_3_code 60 = .ok (.iload_n 2, 1) := by decide +kernel
theorem d4_61 : decode prog_20_method_3_code 61 = .ok (.iastore, 1) := by decide +kernel
theorem d4_62 : decode prog_20_method_3_code 62 = .ok (.aload_n 0, 1) := by decide +kernel
theorem d4_63 : decode prog_20_method_3_code 63 = .ok (.dup, 1) := by decide +kernel
theorem d4_64 : decode prog_20_method_3_code 64 = .ok (.getfield 16, 3) := by decide +kernel
theorem d4_67 : decode prog_20_method_3_code 67 = .ok (.iconst 1, 1) := by decide +kernel
theorem d4_68 : decode prog_20_method_3_code 68 = .ok (.iadd, 1) := by decide +kernel
theorem d4_69 : decode prog_20_method_3_code 69 = .ok (.putfield 16, 3) := by decide +kernel
theorem d4_72 : decode prog_20_method_3_code 72 = .ok (.return_, 1) := by decide +kernel
theorem ef_rmA (m : MethodId) (x0 : Addr) (x1 : Int32) (x2 : Int32) : entryFrame m #[(.ref x0), (.int x1), (.int x2)] 3 = mkF m 0 #[.val (.ref x0), .val (.int x1), .val (.int x2)] [] := by first | (simp [entryFrame, mkF, argsToLocals, Value.category]; done) | rfl
def Q_rmA (Z : State) (r0 : Addr) (i1 : Int32) (i2 : Int32) (b : Addr) (s0 mz : Nat) (f : Nat → Value) (h0 : Heap) (n0 : Nat) (v : Option Value) (h : Heap) (L : List Loc) : Prop := v = none ∧ Fr n0 L ∧ Keep h0 h [r0, b] ∧ Fld Z h r0 "com/example/surrogate/surrogate/index/Entries" "size" "I" (.int (Int32.ofNat (s0 + 1))) ∧ ∃ b' mz' f', n0 ≤ b' ∧ r0 ≠ b' ∧ Fld Z h r0 "com/example/surrogate/surrogate/index/Entries" "entries" "[I" (.ref b') ∧ own_Arf Z h b' .int (Int32.ofNat mz') f' ∧ 2 * (s0 + 1) ≤ mz' ∧ mz' ≤ 12 ∧ mz' % 2 = 0 ∧ f' (2 * s0) = .int i1 ∧ f' (2 * s0 + 1) = .int i2 ∧ (∀ i, i < 2 * s0 → f' i = f i) ∧ (∀ i, i < mz' → ∃ x, f' i = .int x)
set_option maxRecDepth 65536 in
set_option maxHeartbeats 40000000 in
theorem rmA (l : Launch) (Z : State) (a0 : Array Value) (hw : ∀ d ∈ tables_1, d.before a0 Z = true) (ws : List Jvm.Cond) (r0 : Addr) (i1 : Int32) (i2 : Int32) (b : Addr) (s0 mz : Nat) (f : Nat → Value) (h0 : Heap) (n0 : Nat) (Z0 : n0 ≤ h0.size) (E_r0 : Exa Z h0 r0 "com/example/surrogate/surrogate/index/Entries") (F_size_r0 : Fld Z h0 r0 "com/example/surrogate/surrogate/index/Entries" "size" "I" (.int (Int32.ofNat s0))) (F_entries_r0 : Fld Z h0 r0 "com/example/surrogate/surrogate/index/Entries" "entries" "[I" (.ref b)) (V_b : own_Arf Z h0 b .int (Int32.ofNat mz) f) (hint : ∀ i, i < mz → ∃ x, f i = .int x) (g_r0 : n0 ≤ r0) (g_b : n0 ≤ b) (ne_r0_b : r0 ≠ b) (hs3 : s0 ≤ 3) (h2s : 2 * s0 ≤ mz) (hm12 : mz ≤ 12) (hme : mz % 2 = 0) :
    MetFree l (⟨"com/example/surrogate/surrogate/index/Entries", "add", "(II)V"⟩ : MethodName) (head1 (Jvm.Cond.code (⟨"com/example/surrogate/surrogate/index/Entries", "add", "(II)V"⟩ : MethodName) prog_20_method_3_code 3 none :: ws) ({ frames := 2, cells := 1, slots := 12, locals := 33 } : Room)) (fun a U => a = #[(.ref r0), (.int i1), (.int i2)] ∧ Z.Warmed39 U.vm ∧ U.heap = h0) (fun _ _ _ _ _ => True) (fun _ U o U' => ∃ v L, o = .returned v ∧ Q_rmA Z r0 i1 i2 b s0 mz f h0 n0 v U'.heap L ∧ FrameEnd U o U' L ({ frames := 2, cells := 1, slots := 12, locals := 33 } : Room).cells ({ frames := 2, cells := 1, slots := 12, locals := 33 } : Room).slots) := by
  refine MetFree.of_bodySF (plainFor_of_name own_pn1) hisR ?_
  intro p e s m args below meth c s₁ Bd hml0 hP hK
  obtain ⟨rfl, hZ, hh⟩ := hP
  have hx := Bd.exec
  have hby := Bd.bytes
  have hml : c.maxLocals = 3 := hml0
  have hown : s.vm.findClass "com/example/surrogate/surrogate/index/Entries" = some m.cls := findClass_of_methodNamed Bd.named
  have hnm := (name_of_methodNamed Bd.named Bd.method).1
  have X0 : Stand p l e ({ frames := 2, cells := 1, slots := 12, locals := 33 } : Room) s m #[(.ref r0), (.int i1), (.int i2)] below meth c s₁ [] 0 0 := Stand.of_body Bd
  have e0 : s₁.heap = h0 := by rw [← hh, Bd.state]; rfl
  show own_Go p e below (s₁.setTop (entryFrame m #[(.ref r0), (.int i1), (.int i2)] 3)) (fun t o => ∃ v L, o = .returned v ∧ Q_rmA Z r0 i1 i2 b s0 mz f h0 n0 v t.heap L ∧ FrameEnd s o t L ({ frames := 2, cells := 1, slots := 12, locals := 33 } : Room).cells ({ frames := 2, cells := 1, slots := 12, locals := 33 } : Room).slots)
  refine own_by (B := s₁.setTop (mkF m 0 #[.val (.ref r0), .val (.int i1), .val (.int i2)] [])) (fun t k => castTop (ef_rmA m r0 i1 i2) k) ?_
  have Nf := Fr.nil n0
  have Zs := Z0
  have Kp := Keep.refl h0 [r0, b]
  refine own_by (B := s₁.setTop (mkF m 1 #[.val (.ref r0), .val (.int i1), .val (.int i2)] [(.int (2 : Int32))])) (fun t k => XS.iconst X0.here hx rfl (hb hby d4_0) k) ?_
  refine own_by (B := s₁.setTop (mkF m 2 #[.val (.ref r0), .val (.int i1), .val (.int i2)] [(.ref r0), (.int (2 : Int32))])) (fun t k => XS.aloadN X0.here hx rfl (hb hby d4_1) rfl rfl k) ?_
  obtain ⟨T1, X1, e1, st1⟩ := getF X0 hx hZ hown (host := "") (Or.inl (hw _ (List.mem_of_getElem? (i := 17) rfl))) Via.refl e0 F_size_r0 (g := (mkF m 2 #[.val (.ref r0), .val (.int i1), .val (.int i2)] [(.ref r0), (.int (2 : Int32))])) rfl rfl (hb hby d4_2)
  refine own_by (B := T1.setTop (mkF m 5 #[.val (.ref r0), .val (.int i1), .val (.int i2)] [(.int (Int32.ofNat s0)), (.int (2 : Int32))])) st1 ?_
  refine own_by (B := T1.setTop (mkF m 6 #[.val (.ref r0), .val (.int i1), .val (.int i2)] [(.int ((2 : Int32) * (Int32.ofNat s0)))])) (fun t k => XS.imul X1.here hx rfl (hb hby d4_5) rfl k) ?_
  rw [show ((2 : Int32) * (Int32.ofNat s0)) = (Int32.ofNat (2 * s0)) from own_m2 s0]
  refine own_by (B := T1.setTop (mkF m 7 #[.val (.ref r0), .val (.int i1), .val (.int i2)] [(.ref r0), (.int (Int32.ofNat (2 * s0)))])) (fun t k => XS.aloadN X1.here hx rfl (hb hby d4_6) rfl rfl k) ?_
  obtain ⟨T2, X2, e2, st2⟩ := getF X1 hx hZ hown (host := "") (Or.inl (hw _ (List.mem_of_getElem? (i := 10) rfl))) Via.refl e1 F_entries_r0 (g := (mkF m 7 #[.val (.ref r0), .val (.int i1), .val (.int i2)] [(.ref r0), (.int (Int32.ofNat (2 * s0)))])) rfl rfl (hb hby d4_7)
  refine own_by (B := T2.setTop (mkF m 10 #[.val (.ref r0), .val (.int i1), .val (.int i2)] [(.ref b), (.int (Int32.ofNat (2 * s0)))])) st2 ?_
  obtain ⟨cl3, Ar3, Sz3, Ng3, -⟩ := id V_b
  refine own_by (B := T2.setTop (mkF m 11 #[.val (.ref r0), .val (.int i1), .val (.int i2)] [(.int (Int32.ofNat mz)), (.int (Int32.ofNat (2 * s0)))])) (fun t k => X2.arraylength hx (by rw [e2]; exact Ar3.1) (State.isArrayOf_alike hZ.alike Ar3.2.1) (g := (mkF m 10 #[.val (.ref r0), .val (.int i1), .val (.int i2)] [(.ref b), (.int (Int32.ofNat (2 * s0)))])) rfl rfl (hb hby d4_10) _ (by rw [len_of Sz3 Ng3]; exact k)) ?_
  by_cases hg : 2 * s0 = mz
  · refine own_by (B := T2.setTop (mkF m 14 #[.val (.ref r0), .val (.int i1), .val (.int i2)] [])) (fun t k => XS.icmpNo X2.here hx rfl (hb hby d4_11) rfl (teq (congrArg Int32.ofNat hg)).2 k) ?_
    refine own_by (B := T2.setTop (mkF m 15 #[.val (.ref r0), .val (.int i1), .val (.int i2)] [(.ref r0)])) (fun t k => XS.aloadN X2.here hx rfl (hb hby d4_14) rfl rfl k) ?_
    refine own_by (B := T2.setTop (mkF m 16 #[.val (.ref r0), .val (.int i1), .val (.int i2)] [(.ref r0), (.ref r0)])) (fun t k => XS.aloadN X2.here hx rfl (hb hby d4_15) rfl rfl k) ?_
    obtain ⟨T4, X4, e4, st4⟩ := getF X2 hx hZ hown (host := "") (Or.inl (hw _ (List.mem_of_getElem? (i := 10) rfl))) Via.refl e2 F_entries_r0 (g := (mkF m 16 #[.val (.ref r0), .val (.int i1), .val (.int i2)] [(.ref r0), (.ref r0)])) rfl rfl (hb hby d4_16)
    refine own_by (B := T4.setTop (mkF m 19 #[.val (.ref r0), .val (.int i1), .val (.int i2)] [(.ref b), (.ref r0)])) st4 ?_
    refine own_by (B := T4.setTop (mkF m 20 #[.val (.ref r0), .val (.int i1), .val (.int i2)] [(.int (2 : Int32)), (.ref b), (.ref r0)])) (fun t k => XS.iconst X4.here hx rfl (hb hby d4_19) k) ?_
    refine own_by (B := T4.setTop (mkF m 21 #[.val (.ref r0), .val (.int i1), .val (.int i2)] [(.int (2 : Int32)), (.int (2 : Int32)), (.ref b), (.ref r0)])) (fun t k => XS.iconst X4.here hx rfl (hb hby d4_20) k) ?_
    refine own_by (B := T4.setTop (mkF m 22 #[.val (.ref r0), .val (.int i1), .val (.int i2)] [(.ref r0), (.int (2 : Int32)), (.int (2 : Int32)), (.ref b), (.ref r0)])) (fun t k => XS.aloadN X4.here hx rfl (hb hby d4_21) rfl rfl k) ?_
    obtain ⟨T5, X5, e5, st5⟩ := getF X4 hx hZ hown (host := "") (Or.inl (hw _ (List.mem_of_getElem? (i := 10) rfl))) Via.refl e4 F_entries_r0 (g := (mkF m 22 #[.val (.ref r0), .val (.int i1), .val (.int i2)] [(.ref r0), (.int (2 : Int32)), (.int (2 : Int32)), (.ref b), (.ref r0)])) rfl rfl (hb hby d4_22)
    refine own_by (B := T5.setTop (mkF m 25 #[.val (.ref r0), .val (.int i1), .val (.int i2)] [(.ref b), (.int (2 : Int32)), (.int (2 : Int32)), (.ref b), (.ref r0)])) st5 ?_
    obtain ⟨cl6, Ar6, Sz6, Ng6, -⟩ := id V_b
    refine own_by (B := T5.setTop (mkF m 26 #[.val (.ref r0), .val (.int i1), .val (.int i2)] [(.int (Int32.ofNat mz)), (.int (2 : Int32)), (.int (2 : Int32)), (.ref b), (.ref r0)])) (fun t k => X5.arraylength hx (by rw [e5]; exact Ar6.1) (State.isArrayOf_alike hZ.alike Ar6.2.1) (g := (mkF m 25 #[.val (.ref r0), .val (.int i1), .val (.int i2)] [(.ref b), (.int (2 : Int32)), (.int (2 : Int32)), (.ref b), (.ref r0)])) rfl rfl (hb hby d4_25) _ (by rw [len_of Sz6 Ng6]; exact k)) ?_
    refine own_by (B := T5.setTop (mkF m 27 #[.val (.ref r0), .val (.int i1), .val (.int i2)] [(.int ((2 : Int32) * (Int32.ofNat mz))), (.int (2 : Int32)), (.ref b), (.ref r0)])) (fun t k => XS.imul X5.here hx rfl (hb hby d4_26) rfl k) ?_
    rw [show ((2 : Int32) * (Int32.ofNat mz)) = (Int32.ofNat (2 * mz)) from own_m2 mz]
    obtain ⟨_, _, ⟨T7, L7, k7, n7⟩, -, X7, ⟨Lc7, hQ7, l7, y7, z7⟩, st7⟩ := Jvm.LawKit.callS X5 hx (y := (⟨"java/lang/Math", "max", "(II)I"⟩ : MethodName)) hown (mvT hZ (hw _ (List.mem_of_getElem? (i := 24) rfl))) (mvT hZ (hw _ (List.mem_of_getElem? (i := 25) rfl))) (mvT hZ (hw _ (List.mem_of_getElem? (i := 26) rfl))) (mvT hZ (hw _ (List.mem_of_getElem? (i := 27) rfl))) (by decide) (backOf (W := 2) (rmMax l Z a0 hw [] (2 : Int32) (Int32.ofNat (2 * mz)) h0 n0 Zs) hZ (hw _ (List.mem_of_getElem? (i := 27) rfl)) (hw _ (List.mem_of_getElem? (i := 26) rfl)) (by decide) (by decide)) (g := (mkF m 27 #[.val (.ref r0), .val (.int i1), .val (.int i2)] [(.int (Int32.ofNat (2 * mz))), (.int (2 : Int32)), (.ref b), (.ref r0)])) rfl (by rw [hml]; rfl) (argsL := [(.int (2 : Int32)), (.int (Int32.ofNat (2 * mz)))]) (rest := [(.ref b), (.ref r0)]) (lenOf own_pd0 rfl) rfl (by show 2 * 0 + _ ≤ _; exact Nat.le_of_eq rfl) (hb hby d4_27) (fun _ _ => ⟨rfl, e5, (by decide : 0 + 0 ≤ _), (by decide : 0 + 0 ≤ _)⟩)
    dsimp only [Pt.U, Pt.locs, Pt.cells, Pt.slots] at X7 l7 y7 z7 st7 hQ7
    subst l7 y7 z7
    obtain ⟨rfl, Nq7, hp7⟩ := hQ7
    have Nf := Fr.app Nf Nq7
    have ec7 : T7.heap = h0 := hp7
    refine own_by (B := T7.setTop (mkF m 30 #[.val (.ref r0), .val (.int i1), .val (.int i2)] [(.int (own_max (2 : Int32) (Int32.ofNat (2 * mz)))), (.ref b), (.ref r0)])) st7 ?_
    obtain ⟨mk, hmk⟩ : ∃ mk, mk = (if mz = 0 then 2 else 2 * mz) := ⟨_, rfl⟩
    rw [show (own_max (2 : Int32) (Int32.ofNat (2 * mz))) = (Int32.ofNat mk) from by rw [own_maxN (by omega), hmk]]
    have hmk2 : mz < mk ∧ mk ≤ 12 ∧ mk % 2 = 0 ∧ 2 * (s0 + 1) ≤ mk := by rw [hmk]; split <;> omega
    obtain ⟨_, _, ⟨T8, L8, k8, n8⟩, -, X8, ⟨Lc8, hQ8, l8, y8, z8⟩, st8⟩ := Jvm.LawKit.callS X7 hx (y := (⟨"java/util/Arrays", "copyOf", "([II)[I"⟩ : MethodName)) hown (mvT hZ (hw _ (List.mem_of_getElem? (i := 28) rfl))) (mvT hZ (hw _ (List.mem_of_getElem? (i := 29) rfl))) (mvT hZ (hw _ (List.mem_of_getElem? (i := 30) rfl))) (mvT hZ (hw _ (List.mem_of_getElem? (i := 31) rfl))) (by decide) (backOf (W := 1) (rmC l Z a0 hw [] b mz mk f h0 n0 Zs V_b hint (by omega) (by omega)) hZ (hw _ (List.mem_of_getElem? (i := 31) rfl)) (hw _ (List.mem_of_getElem? (i := 30) rfl)) (by decide) (by decide)) (g := (mkF m 30 #[.val (.ref r0), .val (.int i1), .val (.int i2)] [(.int (Int32.ofNat mk)), (.ref b), (.ref r0)])) rfl (by rw [hml]; rfl) (argsL := [(.ref b), (.int (Int32.ofNat mk))]) (rest := [(.ref r0)]) (lenOf own_pd1 rfl) rfl (by show 2 * 0 + _ ≤ _; exact Nat.le_of_eq rfl) (hb hby d4_30) (fun _ _ => ⟨rfl, ec7, (by decide : 0 + 1 ≤ _), (by decide : 0 + 12 ≤ _)⟩)
    dsimp only [Pt.U, Pt.locs, Pt.cells, Pt.slots] at X8 l8 y8 z8 st8 hQ8
    subst l8 y8 z8
    obtain ⟨rfl, Nq8, Kc8, g8, Vc8, hgo, hgi⟩ := hQ8
    have Nf := Fr.app Nf Nq8
    obtain ⟨b8, gq8⟩ : ∃ z, z = h0.size := ⟨_, rfl⟩
    rw [← gq8] at Vc8 st8
    have ne_r0_b8 : r0 ≠ b8 := Nat.ne_of_lt (Nat.lt_of_lt_of_le E_r0.lt (Nat.le_of_eq gq8.symm))
    have ne_b_b8 : b ≠ b8 := Nat.ne_of_lt (Nat.lt_of_lt_of_le V_b.lt (Nat.le_of_eq gq8.symm))
    have g_b8 : n0 ≤ b8 := Nat.le_trans Zs (Nat.le_of_eq gq8.symm)
    have sz_b8 : h0.size ≤ b8 := Nat.le_trans Kp.1 (Nat.le_of_eq gq8.symm)
    have E_r0 := E_r0.keep Kc8
    have F_size_r0 := F_size_r0.keep Kc8 nin0
    have F_entries_r0 := F_entries_r0.keep Kc8 nin0
    have V_b := V_b.keep Kc8 nin0
    have Zs := Nat.le_trans Zs Kc8.1
    have Kp := Kp.trans Kc8 all0
    have V_b8 := Vc8
    refine own_by (B := T8.setTop (mkF m 33 #[.val (.ref r0), .val (.int i1), .val (.int i2)] [(.ref b8), (.ref r0)])) st8 ?_
    obtain ⟨T9, h9, X9, e9, W9, st9⟩ := putF X8 hx hZ hown (host := "") (Or.inl (hw _ (List.mem_of_getElem? (i := 10) rfl))) Via.refl rfl F_entries_r0 E_r0 (Or.inl (hw _ (List.mem_of_getElem? (i := 11) rfl))) (hw _ (List.mem_of_getElem? (i := 1) rfl)) (ty := (.array .int)) (by decide) rfl rfl (g := (mkF m 33 #[.val (.ref r0), .val (.int i1), .val (.int i2)] [(.ref b8), (.ref r0)])) rfl rfl (hb hby d4_33)
    have E_r0 := E_r0.wr W9
    have F_size_r0 := F_size_r0.other W9 (Or.inr (slot_ne (Or.inl (hw _ (List.mem_of_getElem? (i := 18) rfl))) (Or.inl (hw _ (List.mem_of_getElem? (i := 11) rfl))) (by decide) (t := .int) (t' := (.array .int)) (by decide) (by decide)))
    have F_entries_r0 := F_entries_r0.same W9
    have V_b := V_b.other W9 (Ne.symm ne_r0_b)
    have V_b8 := V_b8.other W9 (Ne.symm ne_r0_b8)
    have Zs : n0 ≤ h9.size := by rw [W9.size]; exact Zs
    have Kp := Kp.wr W9 (Or.inl (List.mem_of_getElem? (i := 0) rfl))
    have Nf := Fr.snoc X9 Nf g_r0
    refine own_by (B := T9.setTop (mkF m 36 #[.val (.ref r0), .val (.int i1), .val (.int i2)] [])) st9 ?_
    refine own_by (B := T9.setTop (mkF m 37 #[.val (.ref r0), .val (.int i1), .val (.int i2)] [(.ref r0)])) (fun t k => XS.aloadN X9.here hx rfl (hb hby d4_36) rfl rfl k) ?_
    obtain ⟨T10, X10, e10, st10⟩ := getF X9 hx hZ hown (host := "") (Or.inl (hw _ (List.mem_of_getElem? (i := 10) rfl))) Via.refl e9 F_entries_r0 (g := (mkF m 37 #[.val (.ref r0), .val (.int i1), .val (.int i2)] [(.ref r0)])) rfl rfl (hb hby d4_37)
    refine own_by (B := T10.setTop (mkF m 40 #[.val (.ref r0), .val (.int i1), .val (.int i2)] [(.ref b8)])) st10 ?_
    refine own_by (B := T10.setTop (mkF m 41 #[.val (.ref r0), .val (.int i1), .val (.int i2)] [(.int (2 : Int32)), (.ref b8)])) (fun t k => XS.iconst X10.here hx rfl (hb hby d4_40) k) ?_
    refine own_by (B := T10.setTop (mkF m 42 #[.val (.ref r0), .val (.int i1), .val (.int i2)] [(.ref r0), (.int (2 : Int32)), (.ref b8)])) (fun t k => XS.aloadN X10.here hx rfl (hb hby d4_41) rfl rfl k) ?_
    obtain ⟨T11, X11, e11, st11⟩ := getF X10 hx hZ hown (host := "") (Or.inl (hw _ (List.mem_of_getElem? (i := 17) rfl))) Via.refl e10 F_size_r0 (g := (mkF m 42 #[.val (.ref r0), .val (.int i1), .val (.int i2)] [(.ref r0), (.int (2 : Int32)), (.ref b8)])) rfl rfl (hb hby d4_42)
    refine own_by (B := T11.setTop (mkF m 45 #[.val (.ref r0), .val (.int i1), .val (.int i2)] [(.int (Int32.ofNat s0)), (.int (2 : Int32)), (.ref b8)])) st11 ?_
    refine own_by (B := T11.setTop (mkF m 46 #[.val (.ref r0), .val (.int i1), .val (.int i2)] [(.int ((2 : Int32) * (Int32.ofNat s0))), (.ref b8)])) (fun t k => XS.imul X11.here hx rfl (hb hby d4_45) rfl k) ?_
    rw [show ((2 : Int32) * (Int32.ofNat s0)) = (Int32.ofNat (2 * s0)) from own_m2 s0]
    refine own_by (B := T11.setTop (mkF m 47 #[.val (.ref r0), .val (.int i1), .val (.int i2)] [(.int i1), (.int (Int32.ofNat (2 * s0))), (.ref b8)])) (fun t k => XS.iloadN X11.here hx rfl (hb hby d4_46) rfl k) ?_
    obtain ⟨cl12, Ar12, hin12, -⟩ := V_b8.at (j := (Int32.ofNat (2 * s0))) (own_in (by omega) (by omega))
    obtain ⟨T12, h12, X12, e12, W12, st12⟩ := stI X11 hx hZ e11 Ar12 (j := (Int32.ofNat (2 * s0))) hin12 (g := (mkF m 47 #[.val (.ref r0), .val (.int i1), .val (.int i2)] [(.int i1), (.int (Int32.ofNat (2 * s0))), (.ref b8)])) rfl rfl (hb hby d4_47)
    have E_r0 := E_r0.wr W12
    have F_size_r0 := F_size_r0.other W12 (Or.inl ne_r0_b8)
    have F_entries_r0 := F_entries_r0.other W12 (Or.inl ne_r0_b8)
    have V_b := V_b.other W12 ne_b_b8
    have V_b8 := V_b8.set W12
    have Zs : n0 ≤ h12.size := by rw [W12.size]; exact Zs
    have Kp := Kp.wr W12 (Or.inr sz_b8)
    have Nf := Fr.snoc X12 Nf g_b8
    refine own_by (B := T12.setTop (mkF m 48 #[.val (.ref r0), .val (.int i1), .val (.int i2)] [])) st12 ?_
    refine own_by (B := T12.setTop (mkF m 49 #[.val (.ref r0), .val (.int i1), .val (.int i2)] [(.ref r0)])) (fun t k => XS.aloadN X12.here hx rfl (hb hby d4_48) rfl rfl k) ?_
    obtain ⟨T13, X13, e13, st13⟩ := getF X12 hx hZ hown (host := "") (Or.inl (hw _ (List.mem_of_getElem? (i := 10) rfl))) Via.refl e12 F_entries_r0 (g := (mkF m 49 #[.val (.ref r0), .val (.int i1), .val (.int i2)] [(.ref r0)])) rfl rfl (hb hby d4_49)
    refine own_by (B := T13.setTop (mkF m 52 #[.val (.ref r0), .val (.int i1), .val (.int i2)] [(.ref b8)])) st13 ?_
    refine own_by (B := T13.setTop (mkF m 53 #[.val (.ref r0), .val (.int i1), .val (.int i2)] [(.int (2 : Int32)), (.ref b8)])) (fun t k => XS.iconst X13.here hx rfl (hb hby d4_52) k) ?_
    refine own_by (B := T13.setTop (mkF m 54 #[.val (.ref r0), .val (.int i1), .val (.int i2)] [(.ref r0), (.int (2 : Int32)), (.ref b8)])) (fun t k => XS.aloadN X13.here hx rfl (hb hby d4_53) rfl rfl k) ?_
    obtain ⟨T14, X14, e14, st14⟩ := getF X13 hx hZ hown (host := "") (Or.inl (hw _ (List.mem_of_getElem? (i := 17) rfl))) Via.refl e13 F_size_r0 (g := (mkF m 54 #[.val (.ref r0), .val (.int i1), .val (.int i2)] [(.ref r0), (.int (2 : Int32)), (.ref b8)])) rfl rfl (hb hby d4_54)
    refine own_by (B := T14.setTop (mkF m 57 #[.val (.ref r0), .val (.int i1), .val (.int i2)] [(.int (Int32.ofNat s0)), (.int (2 : Int32)), (.ref b8)])) st14 ?_
    refine own_by (B := T14.setTop (mkF m 58 #[.val (.ref r0), .val (.int i1), .val (.int i2)] [(.int ((2 : Int32) * (Int32.ofNat s0))), (.ref b8)])) (fun t k => XS.imul X14.here hx rfl (hb hby d4_57) rfl k) ?_
    rw [show ((2 : Int32) * (Int32.ofNat s0)) = (Int32.ofNat (2 * s0)) from own_m2 s0]
    refine own_by (B := T14.setTop (mkF m 59 #[.val (.ref r0), .val (.int i1), .val (.int i2)] [(.int (1 : Int32)), (.int (Int32.ofNat (2 * s0))), (.ref b8)])) (fun t k => XS.iconst X14.here hx rfl (hb hby d4_58) k) ?_
    refine own_by (B := T14.setTop (mkF m 60 #[.val (.ref r0), .val (.int i1), .val (.int i2)] [(.int ((Int32.ofNat (2 * s0)) + (1 : Int32))), (.ref b8)])) (fun t k => XS.iadd X14.here hx rfl (hb hby d4_59) rfl k) ?_
    rw [show ((Int32.ofNat (2 * s0)) + (1 : Int32)) = (Int32.ofNat (2 * s0 + 1)) from own_a1 (2 * s0)]
    refine own_by (B := T14.setTop (mkF m 61 #[.val (.ref r0), .val (.int i1), .val (.int i2)] [(.int i2), (.int (Int32.ofNat (2 * s0 + 1))), (.ref b8)])) (fun t k => XS.iloadN X14.here hx rfl (hb hby d4_60) rfl k) ?_
    obtain ⟨cl15, Ar15, hin15, -⟩ := V_b8.at (j := (Int32.ofNat (2 * s0 + 1))) (own_in (by omega) (by omega))
    obtain ⟨T15, h15, X15, e15, W15, st15⟩ := stI X14 hx hZ e14 Ar15 (j := (Int32.ofNat (2 * s0 + 1))) hin15 (g := (mkF m 61 #[.val (.ref r0), .val (.int i1), .val (.int i2)] [(.int i2), (.int (Int32.ofNat (2 * s0 + 1))), (.ref b8)])) rfl rfl (hb hby d4_61)
    have E_r0 := E_r0.wr W15
    have F_size_r0 := F_size_r0.other W15 (Or.inl ne_r0_b8)
    have F_entries_r0 := F_entries_r0.other W15 (Or.inl ne_r0_b8)
    have V_b := V_b.other W15 ne_b_b8
    have V_b8 := V_b8.set W15
    have Zs : n0 ≤ h15.size := by rw [W15.size]; exact Zs
    have Kp := Kp.wr W15 (Or.inr sz_b8)
    have Nf := Fr.snoc X15 Nf g_b8
    refine own_by (B := T15.setTop (mkF m 62 #[.val (.ref r0), .val (.int i1), .val (.int i2)] [])) st15 ?_
    refine own_by (B := T15.setTop (mkF m 63 #[.val (.ref r0), .val (.int i1), .val (.int i2)] [(.ref r0)])) (fun t k => XS.aloadN X15.here hx rfl (hb hby d4_62) rfl rfl k) ?_
    refine own_by (B := T15.setTop (mkF m 64 #[.val (.ref r0), .val (.int i1), .val (.int i2)] [(.ref r0), (.ref r0)])) (fun t k => XS.dup X15.here hx rfl (hb hby d4_63) rfl rfl k) ?_
    obtain ⟨T16, X16, e16, st16⟩ := getF X15 hx hZ hown (host := "") (Or.inl (hw _ (List.mem_of_getElem? (i := 17) rfl))) Via.refl e15 F_size_r0 (g := (mkF m 64 #[.val (.ref r0), .val (.int i1), .val (.int i2)] [(.ref r0), (.ref r0)])) rfl rfl (hb hby d4_64)
    refine own_by (B := T16.setTop (mkF m 67 #[.val (.ref r0), .val (.int i1), .val (.int i2)] [(.int (Int32.ofNat s0)), (.ref r0)])) st16 ?_
    refine own_by (B := T16.setTop (mkF m 68 #[.val (.ref r0), .val (.int i1), .val (.int i2)] [(.int (1 : Int32)), (.int (Int32.ofNat s0)), (.ref r0)])) (fun t k => XS.iconst X16.here hx rfl (hb hby d4_67) k) ?_
    refine own_by (B := T16.setTop (mkF m 69 #[.val (.ref r0), .val (.int i1), .val (.int i2)] [(.int ((Int32.ofNat s0) + (1 : Int32))), (.ref r0)])) (fun t k => XS.iadd X16.here hx rfl (hb hby d4_68) rfl k) ?_
    rw [show ((Int32.ofNat s0) + (1 : Int32)) = (Int32.ofNat (s0 + 1)) from own_a1 s0]
    have t0 : (Int32.ofNat (2 * s0)).toNatClampNeg = 2 * s0 := own_tn (by omega)
    have t1 : (Int32.ofNat (2 * s0 + 1)).toNatClampNeg = 2 * s0 + 1 := own_tn (by omega)
    obtain ⟨T17, h17, X17, e17, W17, st17⟩ := putF X16 hx hZ hown (host := "") (Or.inl (hw _ (List.mem_of_getElem? (i := 17) rfl))) Via.refl e16 F_size_r0 E_r0 (Or.inl (hw _ (List.mem_of_getElem? (i := 18) rfl))) (hw _ (List.mem_of_getElem? (i := 1) rfl)) (ty := .int) (by decide) rfl rfl (g := (mkF m 69 #[.val (.ref r0), .val (.int i1), .val (.int i2)] [(.int (Int32.ofNat (s0 + 1))), (.ref r0)])) rfl rfl (hb hby d4_69)
    have E_r0 := E_r0.wr W17
    have F_size_r0 := F_size_r0.same W17
    have F_entries_r0 := F_entries_r0.other W17 (Or.inr (slot_ne (Or.inl (hw _ (List.mem_of_getElem? (i := 11) rfl))) (Or.inl (hw _ (List.mem_of_getElem? (i := 18) rfl))) (by decide) (t := (.array .int)) (t' := .int) (by decide) (by decide)))
    have V_b := V_b.other W17 (Ne.symm ne_r0_b)
    have V_b8 := V_b8.other W17 (Ne.symm ne_r0_b8)
    have Zs : n0 ≤ h17.size := by rw [W17.size]; exact Zs
    have Kp := Kp.wr W17 (Or.inl (List.mem_of_getElem? (i := 0) rfl))
    have Nf := Fr.snoc X17 Nf g_r0
    refine own_by (B := T17.setTop (mkF m 72 #[.val (.ref r0), .val (.int i1), .val (.int i2)] [])) st17 ?_
    exact own_end X17 (v := none) (fun _ => rfl) (BodyLoose.notSynchronized Bd) (Q := (Q_rmA Z r0 i1 i2 b s0 mz f h0 n0)) (fun fs hr => X17.returnOut hx Bd.returns (hb hby d4_72) hr) (show (Q_rmA Z r0 i1 i2 b s0 mz f h0 n0) _ T17.heap _ from (by rw [e17]; exact ⟨rfl, Nf, Kp, F_size_r0, b8, mk, _, g_b8, ne_r0_b8, F_entries_r0, V_b8, by omega, by omega, by omega, by simp only [t0, t1]; first | rw [if_neg (by omega), if_pos rfl] | rw [if_neg (by omega), if_pos trivial], by simp only [t0, t1]; first | rw [if_pos rfl] | rw [if_pos trivial], fun i hi => by simp only [t0, t1]; rw [if_neg (by omega), if_neg (by omega)]; exact hgo i (by omega), fun i hi => by
            simp only [t0, t1]
            by_cases q1 : i = 2 * s0 + 1
            · rw [if_pos q1]; exact ⟨_, rfl⟩
            · rw [if_neg q1]
              by_cases q2 : i = 2 * s0
              · rw [if_pos q2]; exact ⟨_, rfl⟩
              · rw [if_neg q2]; exact hgi i hi⟩)) (by decide) (by decide)
  · refine own_by (B := T2.setTop (mkF m 36 #[.val (.ref r0), .val (.int i1), .val (.int i2)] [])) (fun t k => XS.icmpYes X2.here hx rfl (pc0 := 11) (pc' := 36) rfl (hb hby d4_11) rfl (feq (fun q => hg (own_injN (by omega) (by omega) q))).2 (by decide) (by decide) k) ?_
    refine own_by (B := T2.setTop (mkF m 37 #[.val (.ref r0), .val (.int i1), .val (.int i2)] [(.ref r0)])) (fun t k => XS.aloadN X2.here hx rfl (hb hby d4_36) rfl rfl k) ?_
    obtain ⟨T18, X18, e18, st18⟩ := getF X2 hx hZ hown (host := "") (Or.inl (hw _ (List.mem_of_getElem? (i := 10) rfl))) Via.refl e2 F_entries_r0 (g := (mkF m 37 #[.val (.ref r0), .val (.int i1), .val (.int i2)] [(.ref r0)])) rfl rfl (hb hby d4_37)
    refine own_by (B := T18.setTop (mkF m 40 #[.val (.ref r0), .val (.int i1), .val (.int i2)] [(.ref b)])) st18 ?_
    refine own_by (B := T18.setTop (mkF m 41 #[.val (.ref r0), .val (.int i1), .val (.int i2)] [(.int (2 : Int32)), (.ref b)])) (fun t k => XS.iconst X18.here hx rfl (hb hby d4_40) k) ?_
    refine own_by (B := T18.setTop (mkF m 42 #[.val (.ref r0), .val (.int i1), .val (.int i2)] [(.ref r0), (.int (2 : Int32)), (.ref b)])) (fun t k => XS.aloadN X18.here hx rfl (hb hby d4_41) rfl rfl k) ?_
    obtain ⟨T19, X19, e19, st19⟩ := getF X18 hx hZ hown (host := "") (Or.inl (hw _ (List.mem_of_getElem? (i := 17) rfl))) Via.refl e18 F_size_r0 (g := (mkF m 42 #[.val (.ref r0), .val (.int i1), .val (.int i2)] [(.ref r0), (.int (2 : Int32)), (.ref b)])) rfl rfl (hb hby d4_42)
    refine own_by (B := T19.setTop (mkF m 45 #[.val (.ref r0), .val (.int i1), .val (.int i2)] [(.int (Int32.ofNat s0)), (.int (2 : Int32)), (.ref b)])) st19 ?_
    refine own_by (B := T19.setTop (mkF m 46 #[.val (.ref r0), .val (.int i1), .val (.int i2)] [(.int ((2 : Int32) * (Int32.ofNat s0))), (.ref b)])) (fun t k => XS.imul X19.here hx rfl (hb hby d4_45) rfl k) ?_
    rw [show ((2 : Int32) * (Int32.ofNat s0)) = (Int32.ofNat (2 * s0)) from own_m2 s0]
    refine own_by (B := T19.setTop (mkF m 47 #[.val (.ref r0), .val (.int i1), .val (.int i2)] [(.int i1), (.int (Int32.ofNat (2 * s0))), (.ref b)])) (fun t k => XS.iloadN X19.here hx rfl (hb hby d4_46) rfl k) ?_
    obtain ⟨cl20, Ar20, hin20, -⟩ := V_b.at (j := (Int32.ofNat (2 * s0))) (own_in (by omega) (by omega))
    obtain ⟨T20, h20, X20, e20, W20, st20⟩ := stI X19 hx hZ e19 Ar20 (j := (Int32.ofNat (2 * s0))) hin20 (g := (mkF m 47 #[.val (.ref r0), .val (.int i1), .val (.int i2)] [(.int i1), (.int (Int32.ofNat (2 * s0))), (.ref b)])) rfl rfl (hb hby d4_47)
    have E_r0 := E_r0.wr W20
    have F_size_r0 := F_size_r0.other W20 (Or.inl ne_r0_b)
    have F_entries_r0 := F_entries_r0.other W20 (Or.inl ne_r0_b)
    have V_b := V_b.set W20
    have Zs : n0 ≤ h20.size := by rw [W20.size]; exact Zs
    have Kp := Kp.wr W20 (Or.inl (List.mem_of_getElem? (i := 1) rfl))
    have Nf := Fr.snoc X20 Nf g_b
    refine own_by (B := T20.setTop (mkF m 48 #[.val (.ref r0), .val (.int i1), .val (.int i2)] [])) st20 ?_
    refine own_by (B := T20.setTop (mkF m 49 #[.val (.ref r0), .val (.int i1), .val (.int i2)] [(.ref r0)])) (fun t k => XS.aloadN X20.here hx rfl (hb hby d4_48) rfl rfl k) ?_
    obtain ⟨T21, X21, e21, st21⟩ := getF X20 hx hZ hown (host := "") (Or.inl (hw _ (List.mem_of_getElem? (i := 10) rfl))) Via.refl e20 F_entries_r0 (g := (mkF m 49 #[.val (.ref r0), .val (.int i1), .val (.int i2)] [(.ref r0)])) rfl rfl (hb hby d4_49)
    refine own_by (B := T21.setTop (mkF m 52 #[.val (.ref r0), .val (.int i1), .val (.int i2)] [(.ref b)])) st21 ?_
    refine own_by (B := T21.setTop (mkF m 53 #[.val (.ref r0), .val (.int i1), .val (.int i2)] [(.int (2 : Int32)), (.ref b)])) (fun t k => XS.iconst X21.here hx rfl (hb hby d4_52) k) ?_
    refine own_by (B := T21.setTop (mkF m 54 #[.val (.ref r0), .val (.int i1), .val (.int i2)] [(.ref r0), (.int (2 : Int32)), (.ref b)])) (fun t k => XS.aloadN X21.here hx rfl (hb hby d4_53) rfl rfl k) ?_
    obtain ⟨T22, X22, e22, st22⟩ := getF X21 hx hZ hown (host := "") (Or.inl (hw _ (List.mem_of_getElem? (i := 17) rfl))) Via.refl e21 F_size_r0 (g := (mkF m 54 #[.val (.ref r0), .val (.int i1), .val (.int i2)] [(.ref r0), (.int (2 : Int32)), (.ref b)])) rfl rfl (hb hby d4_54)
    refine own_by (B := T22.setTop (mkF m 57 #[.val (.ref r0), .val (.int i1), .val (.int i2)] [(.int (Int32.ofNat s0)), (.int (2 : Int32)), (.ref b)])) st22 ?_
    refine own_by (B := T22.setTop (mkF m 58 #[.val (.ref r0), .val (.int i1), .val (.int i2)] [(.int ((2 : Int32) * (Int32.ofNat s0))), (.ref b)])) (fun t k => XS.imul X22.here hx rfl (hb hby d4_57) rfl k) ?_
    rw [show ((2 : Int32) * (Int32.ofNat s0)) = (Int32.ofNat (2 * s0)) from own_m2 s0]
    refine own_by (B := T22.setTop (mkF m 59 #[.val (.ref r0), .val (.int i1), .val (.int i2)] [(.int (1 : Int32)), (.int (Int32.ofNat (2 * s0))), (.ref b)])) (fun t k => XS.iconst X22.here hx rfl (hb hby d4_58) k) ?_
    refine own_by (B := T22.setTop (mkF m 60 #[.val (.ref r0), .val (.int i1), .val (.int i2)] [(.int ((Int32.ofNat (2 * s0)) + (1 : Int32))), (.ref b)])) (fun t k => XS.iadd X22.here hx rfl (hb hby d4_59) rfl k) ?_
    rw [show ((Int32.ofNat (2 * s0)) + (1 : Int32)) = (Int32.ofNat (2 * s0 + 1)) from own_a1 (2 * s0)]
    refine own_by (B := T22.setTop (mkF m 61 #[.val (.ref r0), .val (.int i1), .val (.int i2)] [(.int i2), (.int (Int32.ofNat (2 * s0 + 1))), (.ref b)])) (fun t k => XS.iloadN X22.here hx rfl (hb hby d4_60) rfl k) ?_
    obtain ⟨cl23, Ar23, hin23, -⟩ := V_b.at (j := (Int32.ofNat (2 * s0 + 1))) (own_in (by omega) (by omega))
    obtain ⟨T23, h23, X23, e23, W23, st23⟩ := stI X22 hx hZ e22 Ar23 (j := (Int32.ofNat (2 * s0 + 1))) hin23 (g := (mkF m 61 #[.val (.ref r0), .val (.int i1), .val (.int i2)] [(.int i2), (.int (Int32.ofNat (2 * s0 + 1))), (.ref b)])) rfl rfl (hb hby d4_61)
    have E_r0 := E_r0.wr W23
    have F_size_r0 := F_size_r0.other W23 (Or.inl ne_r0_b)
    have F_entries_r0 := F_entries_r0.other W23 (Or.inl ne_r0_b)
    have V_b := V_b.set W23
    have Zs : n0 ≤ h23.size := by rw [W23.size]; exact Zs
    have Kp := Kp.wr W23 (Or.inl (List.mem_of_getElem? (i := 1) rfl))
    have Nf := Fr.snoc X23 Nf g_b
    refine own_by (B := T23.setTop (mkF m 62 #[.val (.ref r0), .val (.int i1), .val (.int i2)] [])) st23 ?_
    refine own_by (B := T23.setTop (mkF m 63 #[.val (.ref r0), .val (.int i1), .val (.int i2)] [(.ref r0)])) (fun t k => XS.aloadN X23.here hx rfl (hb hby d4_62) rfl rfl k) ?_
    refine own_by (B := T23.setTop (mkF m 64 #[.val (.ref r0), .val (.int i1), .val (.int i2)] [(.ref r0), (.ref r0)])) (fun t k => XS.dup X23.here hx rfl (hb hby d4_63) rfl rfl k) ?_
    obtain ⟨T24, X24, e24, st24⟩ := getF X23 hx hZ hown (host := "") (Or.inl (hw _ (List.mem_of_getElem? (i := 17) rfl))) Via.refl e23 F_size_r0 (g := (mkF m 64 #[.val (.ref r0), .val (.int i1), .val (.int i2)] [(.ref r0), (.ref r0)])) rfl rfl (hb hby d4_64)
    refine own_by (B := T24.setTop (mkF m 67 #[.val (.ref r0), .val (.int i1), .val (.int i2)] [(.int (Int32.ofNat s0)), (.ref r0)])) st24 ?_
    refine own_by (B := T24.setTop (mkF m 68 #[.val (.ref r0), .val (.int i1), .val (.int i2)] [(.int (1 : Int32)), (.int (Int32.ofNat s0)), (.ref r0)])) (fun t k => XS.iconst X24.here hx rfl (hb hby d4_67) k) ?_
    refine own_by (B := T24.setTop (mkF m 69 #[.val (.ref r0), .val (.int i1), .val (.int i2)] [(.int ((Int32.ofNat s0) + (1 : Int32))), (.ref r0)])) (fun t k => XS.iadd X24.here hx rfl (hb hby d4_68) rfl k) ?_
    rw [show ((Int32.ofNat s0) + (1 : Int32)) = (Int32.ofNat (s0 + 1)) from own_a1 s0]
    have t0 : (Int32.ofNat (2 * s0)).toNatClampNeg = 2 * s0 := own_tn (by omega)
    have t1 : (Int32.ofNat (2 * s0 + 1)).toNatClampNeg = 2 * s0 + 1 := own_tn (by omega)
    obtain ⟨T25, h25, X25, e25, W25, st25⟩ := putF X24 hx hZ hown (host := "") (Or.inl (hw _ (List.mem_of_getElem? (i := 17) rfl))) Via.refl e24 F_size_r0 E_r0 (Or.inl (hw _ (List.mem_of_getElem? (i := 18) rfl))) (hw _ (List.mem_of_getElem? (i := 1) rfl)) (ty := .int) (by decide) rfl rfl (g := (mkF m 69 #[.val (.ref r0), .val (.int i1), .val (.int i2)] [(.int (Int32.ofNat (s0 + 1))), (.ref r0)])) rfl rfl (hb hby d4_69)
    have E_r0 := E_r0.wr W25
    have F_size_r0 := F_size_r0.same W25
    have F_entries_r0 := F_entries_r0.other W25 (Or.inr (slot_ne (Or.inl (hw _ (List.mem_of_getElem? (i := 11) rfl))) (Or.inl (hw _ (List.mem_of_getElem? (i := 18) rfl))) (by decide) (t := (.array .int)) (t' := .int) (by decide) (by decide)))
    have V_b := V_b.other W25 (Ne.symm ne_r0_b)
    have Zs : n0 ≤ h25.size := by rw [W25.size]; exact Zs
    have Kp := Kp.wr W25 (Or.inl (List.mem_of_getElem? (i := 0) rfl))
    have Nf := Fr.snoc X25 Nf g_r0
    refine own_by (B := T25.setTop (mkF m 72 #[.val (.ref r0), .val (.int i1), .val (.int i2)] [])) st25 ?_
    exact own_end X25 (v := none) (fun _ => rfl) (BodyLoose.notSynchronized Bd) (Q := (Q_rmA Z r0 i1 i2 b s0 mz f h0 n0)) (fun fs hr => X25.returnOut hx Bd.returns (hb hby d4_72) hr) (show (Q_rmA Z r0 i1 i2 b s0 mz f h0 n0) _ T25.heap _ from (by rw [e25]; exact ⟨rfl, Nf, Kp, F_size_r0, b, mz, _, g_b, ne_r0_b, F_entries_r0, V_b, by omega, by omega, by omega, by simp only [t0, t1]; first | rw [if_neg (by omega), if_pos rfl] | rw [if_neg (by omega), if_pos trivial], by simp only [t0, t1]; first | rw [if_pos rfl] | rw [if_pos trivial], fun i hi => by simp only [t0, t1]; rw [if_neg (by omega), if_neg (by omega)], fun i hi => by
            simp only [t0, t1]
            by_cases q1 : i = 2 * s0 + 1
            · rw [if_pos q1]; exact ⟨_, rfl⟩
            · rw [if_neg q1]
              by_cases q2 : i = 2 * s0
              · rw [if_pos q2]; exact ⟨_, rfl⟩
              · rw [if_neg q2]; exact hint i hi⟩)) (by decide) (by decide)
theorem d3_0 : decode prog_20_method_7_code 0 = .ok (.aload_n 0, 1) := by decide +kernel
theorem d3_1 : decode prog_20_method_7_code 1 = .ok (.getfield 16, 3) := by decide +kernel
theorem d3_4 : decode prog_20_method_7_code 4 = .ok (.newarray .int, 2) := by decide +kernel
theorem d3_6 : decode prog_20_method_7_code 6 = .ok (.astore_n 1, 1) := by decide +kernel
theorem d3_7 : decode prog_20_method_7_code 7 = .ok (.iconst 0, 1) := by decide +kernel
theorem d3_8 : decode prog_20_method_7_code 8 = .ok (.istore_n 2, 1) := by decide +kernel
theorem d3_9 : decode prog_20_method_7_code 9 = .ok (.iload_n 2, 1) := by decide +kernel
theorem d3_10 : decode prog_20_method_7_code 10 = .ok (.aload_n 0, 1) := by decide +kernel
theorem d3_11 : decode prog_20_method_7_code 11 = .ok (.getfield 16, 3) := by decide +kernel
theorem d3_14 : decode prog_20_method_7_code 14 = .ok (.if_icmp .ge 20, 3) := by decide +kernel
theorem d3_34 : decode prog_20_method_7_code 34 = .ok (.aload_n 1, 1) := by decide +kernel
theorem d3_35 : decode prog_20_method_7_code 35 = .ok (.areturn, 1) := by decide +kernel
theorem ef_rmF0 (m : MethodId) (x0 : Addr) : entryFrame m #[(.ref x0)] 3 = mkF m 0 #[.val (.ref x0), .unset, .unset] [] := by first | (simp [entryFrame, mkF, argsToLocals, Value.category]; done) | rfl
def Q_rmF0 (Z : State) (r0 : Addr) (b : Addr) (mz : Nat) (f : Nat → Value)  (h0 : Heap) (n0 : Nat) (v : Option Value) (h : Heap) (L : List Loc) : Prop := v = some (.ref h0.size) ∧ Fr n0 L ∧ Keep h0 h [] ∧ ∃ g, own_Arf Z h h0.size .int (0 : Int32) g
set_option maxRecDepth 65536 in
set_option maxHeartbeats 40000000 in
theorem rmF0 (l : Launch) (Z : State) (a0 : Array Value) (hw : ∀ d ∈ tables_1, d.before a0 Z = true) (ws : List Jvm.Cond) (r0 : Addr) (b : Addr) (mz : Nat) (f : Nat → Value)  (h0 : Heap) (n0 : Nat) (Z0 : n0 ≤ h0.size) (F_size_r0 : Fld Z h0 r0 "com/example/surrogate/surrogate/index/Entries" "size" "I" (.int (0 : Int32))) (F_entries_r0 : Fld Z h0 r0 "com/example/surrogate/surrogate/index/Entries" "entries" "[I" (.ref b)) (V_b : own_Arf Z h0 b .int (Int32.ofNat mz) f) (ne_r0_b : r0 ≠ b) (hm : 0 ≤ mz) (hm12 : mz ≤ 12)  :
    MetFree l (⟨"com/example/surrogate/surrogate/index/Entries", "numbers", "()[I"⟩ : MethodName) (head1 (Jvm.Cond.code (⟨"com/example/surrogate/surrogate/index/Entries", "numbers", "()[I"⟩ : MethodName) prog_20_method_7_code 3 (some (.array .int)) :: ws) ({ frames := 0, cells := 1, slots := 0, locals := 0 } : Room)) (fun a U => a = #[(.ref r0)] ∧ Z.Warmed39 U.vm ∧ U.heap = h0) (fun _ _ _ _ _ => True) (fun _ U o U' => ∃ v L, o = .returned v ∧ Q_rmF0 Z r0 b mz f h0 n0 v U'.heap L ∧ FrameEnd U o U' L ({ frames := 0, cells := 1, slots := 0, locals := 0 } : Room).cells ({ frames := 0, cells := 1, slots := 0, locals := 0 } : Room).slots) := by
  refine MetFree.of_bodySF (plainFor_of_name own_pn1) hisR ?_
  intro p e s m args below meth c s₁ Bd hml0 hP hK
  obtain ⟨rfl, hZ, hh⟩ := hP
  have hx := Bd.exec
  have hby := Bd.bytes
  have hml : c.maxLocals = 3 := hml0
  have hown : s.vm.findClass "com/example/surrogate/surrogate/index/Entries" = some m.cls := findClass_of_methodNamed Bd.named
  have hnm := (name_of_methodNamed Bd.named Bd.method).1
  have X0 : Stand p l e ({ frames := 0, cells := 1, slots := 0, locals := 0 } : Room) s m #[(.ref r0)] below meth c s₁ [] 0 0 := Stand.of_body Bd
  have e0 : s₁.heap = h0 := by rw [← hh, Bd.state]; rfl
  show own_Go p e below (s₁.setTop (entryFrame m #[(.ref r0)] 3)) (fun t o => ∃ v L, o = .returned v ∧ Q_rmF0 Z r0 b mz f h0 n0 v t.heap L ∧ FrameEnd s o t L ({ frames := 0, cells := 1, slots := 0, locals := 0 } : Room).cells ({ frames := 0, cells := 1, slots := 0, locals := 0 } : Room).slots)
  refine own_by (B := s₁.setTop (mkF m 0 #[.val (.ref r0), .unset, .unset] [])) (fun t k => castTop (ef_rmF0 m r0) k) ?_
  have Nf := Fr.nil n0
  have Zs := Z0
  have Kp := Keep.refl h0 []
  refine own_by (B := s₁.setTop (mkF m 1 #[.val (.ref r0), .unset, .unset] [(.ref r0)])) (fun t k => XS.aloadN X0.here hx rfl (hb hby d3_0) rfl rfl k) ?_
  obtain ⟨T1, X1, e1, st1⟩ := getF X0 hx hZ hown (host := "") (Or.inl (hw _ (List.mem_of_getElem? (i := 17) rfl))) Via.refl e0 F_size_r0 (g := (mkF m 1 #[.val (.ref r0), .unset, .unset] [(.ref r0)])) rfl rfl (hb hby d3_1)
  refine own_by (B := T1.setTop (mkF m 4 #[.val (.ref r0), .unset, .unset] [(.int (0 : Int32))])) st1 ?_
  obtain ⟨T2, h2, k2, X2, e2, E2, A2, st2⟩ := newP X1 hx hZ (hw _ (List.mem_of_getElem? (i := 9) rfl)) e1 (g := (mkF m 4 #[.val (.ref r0), .unset, .unset] [(.int (0 : Int32))])) rfl (hb hby d3_4) rfl (by decide) (cap := 0) (by decide) (by decide) (by decide) (by decide)
  obtain ⟨b2, gq2⟩ : ∃ z, z = h0.size := ⟨_, rfl⟩
  rw [← gq2] at A2 st2
  have ne_r0_b2 : r0 ≠ b2 := Nat.ne_of_lt (Nat.lt_of_lt_of_le F_size_r0.lt (Nat.le_of_eq gq2.symm))
  have ne_b_b2 : b ≠ b2 := Nat.ne_of_lt (Nat.lt_of_lt_of_le V_b.lt (Nat.le_of_eq gq2.symm))
  have g_b2 : n0 ≤ b2 := Nat.le_trans Zs (Nat.le_of_eq gq2.symm)
  have sz_b2 : h0.size ≤ b2 := Nat.le_trans Kp.1 (Nat.le_of_eq gq2.symm)
  have F_size_r0 := F_size_r0.ext E2
  have F_entries_r0 := F_entries_r0.ext E2
  have V_b := V_b.ext E2
  have Zs := Nat.le_trans Zs E2.1
  have Kp := Kp.ext E2
  have V_b2 := own_Arf.new A2 (by decide)
  refine own_by (B := T2.setTop (mkF m 6 #[.val (.ref r0), .unset, .unset] [(.ref b2)])) st2 ?_
  refine own_by (B := T2.setTop (mkF m 7 #[.val (.ref r0), .val (.ref b2), .unset] [])) (fun t k => XS.astoreN X2.here hx rfl (hb hby d3_6) rfl rfl (l' := #[.val (.ref r0), .val (.ref b2), .unset]) rfl k) ?_
  refine own_by (B := T2.setTop (mkF m 8 #[.val (.ref r0), .val (.ref b2), .unset] [(.int (0 : Int32))])) (fun t k => XS.iconst X2.here hx rfl (hb hby d3_7) k) ?_
  refine own_by (B := T2.setTop (mkF m 9 #[.val (.ref r0), .val (.ref b2), .val (.int (0 : Int32))] [])) (fun t k => XS.istoreN X2.here hx rfl (hb hby d3_8) rfl (l' := #[.val (.ref r0), .val (.ref b2), .val (.int (0 : Int32))]) rfl k) ?_
  refine own_by (B := T2.setTop (mkF m 10 #[.val (.ref r0), .val (.ref b2), .val (.int (0 : Int32))] [(.int (0 : Int32))])) (fun t k => XS.iloadN X2.here hx rfl (hb hby d3_9) rfl k) ?_
  refine own_by (B := T2.setTop (mkF m 11 #[.val (.ref r0), .val (.ref b2), .val (.int (0 : Int32))] [(.ref r0), (.int (0 : Int32))])) (fun t k => XS.aloadN X2.here hx rfl (hb hby d3_10) rfl rfl k) ?_
  obtain ⟨T3, X3, e3, st3⟩ := getF X2 hx hZ hown (host := "") (Or.inl (hw _ (List.mem_of_getElem? (i := 17) rfl))) Via.refl e2 F_size_r0 (g := (mkF m 11 #[.val (.ref r0), .val (.ref b2), .val (.int (0 : Int32))] [(.ref r0), (.int (0 : Int32))])) rfl rfl (hb hby d3_11)
  refine own_by (B := T3.setTop (mkF m 14 #[.val (.ref r0), .val (.ref b2), .val (.int (0 : Int32))] [(.int (0 : Int32)), (.int (0 : Int32))])) st3 ?_
  refine own_by (B := T3.setTop (mkF m 34 #[.val (.ref r0), .val (.ref b2), .val (.int (0 : Int32))] [])) (fun t k => XS.icmpYes X3.here hx rfl (pc0 := 14) (pc' := 34) rfl (hb hby d3_14) rfl (flt (by decide)).2.1 (by decide) (by decide) k) ?_
  refine own_by (B := T3.setTop (mkF m 35 #[.val (.ref r0), .val (.ref b2), .val (.int (0 : Int32))] [(.ref b2)])) (fun t k => XS.aloadN X3.here hx rfl (hb hby d3_34) rfl rfl k) ?_
  exact own_end X3 (v := some (.ref b2)) (fun h => by rw [Bd.returns] at h; cases h) (BodyLoose.notSynchronized Bd) (Q := (Q_rmF0 Z r0 b mz f h0 n0)) (fun fs hr => retOut X3 hx (t := (.array .int)) Bd.returns rfl (Or.inr (Or.inr (Or.inr (Or.inr ⟨rfl, rfl, rfl⟩)))) (hb hby d3_35) hr) (show (Q_rmF0 Z r0 b mz f h0 n0) _ T3.heap _ from (by rw [e3]; exact ⟨by rw [gq2], Nf, Kp, _, by rw [← gq2]; exact V_b2⟩)) (by decide) (by decide)
theorem d3_17 : decode prog_20_method_7_code 17 = .ok (.aload_n 1, 1) := by decide +kernel
theorem d3_18 : decode prog_20_method_7_code 18 = .ok (.iload_n 2, 1) := by decide +kernel
theorem d3_19 : decode prog_20_method_7_code 19 = .ok (.aload_n 0, 1) := by decide +kernel
theorem d3_20 : decode prog_20_method_7_code 20 = .ok (.getfield 12, 3) := by decide +kernel
theorem d3_23 : decode prog_20_method_7_code 23 = .ok (.iconst 2, 1) := by decide +kernel
theorem d3_24 : decode prog_20_method_7_code 24 = .ok (.iload_n 2, 1) := by decide +kernel
theorem d3_25 : decode prog_20_method_7_code 25 = .ok (.imul, 1) := by decide +kernel
theorem d3_26 : decode prog_20_method_7_code 26 = .ok (.iaload, 1) := by decide +kernel
theorem d3_27 : decode prog_20_method_7_code 27 = .ok (.iastore, 1) := by decide +kernel
theorem d3_28 : decode prog_20_method_7_code 28 = .ok (.iinc 2 1, 3) := by decide +kernel
theorem d3_31 : decode prog_20_method_7_code 31 = .ok (.goto (-22), 3) := by decide +kernel
theorem ef_rmF1 (m : MethodId) (x0 : Addr) : entryFrame m #[(.ref x0)] 3 = mkF m 0 #[.val (.ref x0), .unset, .unset] [] := by first | (simp [entryFrame, mkF, argsToLocals, Value.category]; done) | rfl
def Q_rmF1 (Z : State) (r0 : Addr) (b : Addr) (mz : Nat) (f : Nat → Value) (x0 : Int32) (h0 : Heap) (n0 : Nat) (v : Option Value) (h : Heap) (L : List Loc) : Prop := v = some (.ref h0.size) ∧ Fr n0 L ∧ Keep h0 h [] ∧ ∃ g, own_Arf Z h h0.size .int (1 : Int32) g ∧ g 0 = .int x0
set_option maxRecDepth 65536 in
set_option maxHeartbeats 40000000 in
theorem rmF1 (l : Launch) (Z : State) (a0 : Array Value) (hw : ∀ d ∈ tables_1, d.before a0 Z = true) (ws : List Jvm.Cond) (r0 : Addr) (b : Addr) (mz : Nat) (f : Nat → Value) (x0 : Int32) (h0 : Heap) (n0 : Nat) (Z0 : n0 ≤ h0.size) (F_size_r0 : Fld Z h0 r0 "com/example/surrogate/surrogate/index/Entries" "size" "I" (.int (1 : Int32))) (F_entries_r0 : Fld Z h0 r0 "com/example/surrogate/surrogate/index/Entries" "entries" "[I" (.ref b)) (V_b : own_Arf Z h0 b .int (Int32.ofNat mz) f) (ne_r0_b : r0 ≠ b) (hm : 2 ≤ mz) (hm12 : mz ≤ 12) (hf0 : f 0 = .int x0) :
    MetFree l (⟨"com/example/surrogate/surrogate/index/Entries", "numbers", "()[I"⟩ : MethodName) (head1 (Jvm.Cond.code (⟨"com/example/surrogate/surrogate/index/Entries", "numbers", "()[I"⟩ : MethodName) prog_20_method_7_code 3 (some (.array .int)) :: ws) ({ frames := 0, cells := 1, slots := 1, locals := 0 } : Room)) (fun a U => a = #[(.ref r0)] ∧ Z.Warmed39 U.vm ∧ U.heap = h0) (fun _ _ _ _ _ => True) (fun _ U o U' => ∃ v L, o = .returned v ∧ Q_rmF1 Z r0 b mz f x0 h0 n0 v U'.heap L ∧ FrameEnd U o U' L ({ frames := 0, cells := 1, slots := 1, locals := 0 } : Room).cells ({ frames := 0, cells := 1, slots := 1, locals := 0 } : Room).slots) := by
  refine MetFree.of_bodySF (plainFor_of_name own_pn1) hisR ?_
  intro p e s m args below meth c s₁ Bd hml0 hP hK
  obtain ⟨rfl, hZ, hh⟩ := hP
  have hx := Bd.exec
  have hby := Bd.bytes
  have hml : c.maxLocals = 3 := hml0
  have hown : s.vm.findClass "com/example/surrogate/surrogate/index/Entries" = some m.cls := findClass_of_methodNamed Bd.named
  have hnm := (name_of_methodNamed Bd.named Bd.method).1
  have X0 : Stand p l e ({ frames := 0, cells := 1, slots := 1, locals := 0 } : Room) s m #[(.ref r0)] below meth c s₁ [] 0 0 := Stand.of_body Bd
  have e0 : s₁.heap = h0 := by rw [← hh, Bd.state]; rfl
  show own_Go p e below (s₁.setTop (entryFrame m #[(.ref r0)] 3)) (fun t o => ∃ v L, o = .returned v ∧ Q_rmF1 Z r0 b mz f x0 h0 n0 v t.heap L ∧ FrameEnd s o t L ({ frames := 0, cells := 1, slots := 1, locals := 0 } : Room).cells ({ frames := 0, cells := 1, slots := 1, locals := 0 } : Room).slots)
  refine own_by (B := s₁.setTop (mkF m 0 #[.val (.ref r0), .unset, .unset] [])) (fun t k => castTop (ef_rmF1 m r0) k) ?_
  have Nf := Fr.nil n0
  have Zs := Z0
  have Kp := Keep.refl h0 []
  refine own_by (B := s₁.setTop (mkF m 1 #[.val (.ref r0), .unset, .unset] [(.ref r0)])) (fun t k => XS.aloadN X0.here hx rfl (hb hby d3_0) rfl rfl k) ?_
  obtain ⟨T1, X1, e1, st1⟩ := getF X0 hx hZ hown (host := "") (Or.inl (hw _ (List.mem_of_getElem? (i := 17) rfl))) Via.refl e0 F_size_r0 (g := (mkF m 1 #[.val (.ref r0), .unset, .unset] [(.ref r0)])) rfl rfl (hb hby d3_1)
  refine own_by (B := T1.setTop (mkF m 4 #[.val (.ref r0), .unset, .unset] [(.int (1 : Int32))])) st1 ?_
  obtain ⟨T2, h2, k2, X2, e2, E2, A2, st2⟩ := newP X1 hx hZ (hw _ (List.mem_of_getElem? (i := 9) rfl)) e1 (g := (mkF m 4 #[.val (.ref r0), .unset, .unset] [(.int (1 : Int32))])) rfl (hb hby d3_4) rfl (by decide) (cap := 1) (by decide) (by decide) (by decide) (by decide)
  obtain ⟨b2, gq2⟩ : ∃ z, z = h0.size := ⟨_, rfl⟩
  rw [← gq2] at A2 st2
  have ne_r0_b2 : r0 ≠ b2 := Nat.ne_of_lt (Nat.lt_of_lt_of_le F_size_r0.lt (Nat.le_of_eq gq2.symm))
  have ne_b_b2 : b ≠ b2 := Nat.ne_of_lt (Nat.lt_of_lt_of_le V_b.lt (Nat.le_of_eq gq2.symm))
  have g_b2 : n0 ≤ b2 := Nat.le_trans Zs (Nat.le_of_eq gq2.symm)
  have sz_b2 : h0.size ≤ b2 := Nat.le_trans Kp.1 (Nat.le_of_eq gq2.symm)
  have F_size_r0 := F_size_r0.ext E2
  have F_entries_r0 := F_entries_r0.ext E2
  have V_b := V_b.ext E2
  have Zs := Nat.le_trans Zs E2.1
  have Kp := Kp.ext E2
  have V_b2 := own_Arf.new A2 (by decide)
  refine own_by (B := T2.setTop (mkF m 6 #[.val (.ref r0), .unset, .unset] [(.ref b2)])) st2 ?_
  refine own_by (B := T2.setTop (mkF m 7 #[.val (.ref r0), .val (.ref b2), .unset] [])) (fun t k => XS.astoreN X2.here hx rfl (hb hby d3_6) rfl rfl (l' := #[.val (.ref r0), .val (.ref b2), .unset]) rfl k) ?_
  refine own_by (B := T2.setTop (mkF m 8 #[.val (.ref r0), .val (.ref b2), .unset] [(.int (0 : Int32))])) (fun t k => XS.iconst X2.here hx rfl (hb hby d3_7) k) ?_
  refine own_by (B := T2.setTop (mkF m 9 #[.val (.ref r0), .val (.ref b2), .val (.int (0 : Int32))] [])) (fun t k => XS.istoreN X2.here hx rfl (hb hby d3_8) rfl (l' := #[.val (.ref r0), .val (.ref b2), .val (.int (0 : Int32))]) rfl k) ?_
  refine own_by (B := T2.setTop (mkF m 10 #[.val (.ref r0), .val (.ref b2), .val (.int (0 : Int32))] [(.int (0 : Int32))])) (fun t k => XS.iloadN X2.here hx rfl (hb hby d3_9) rfl k) ?_
  refine own_by (B := T2.setTop (mkF m 11 #[.val (.ref r0), .val (.ref b2), .val (.int (0 : Int32))] [(.ref r0), (.int (0 : Int32))])) (fun t k => XS.aloadN X2.here hx rfl (hb hby d3_10) rfl rfl k) ?_
  obtain ⟨T3, X3, e3, st3⟩ := getF X2 hx hZ hown (host := "") (Or.inl (hw _ (List.mem_of_getElem? (i := 17) rfl))) Via.refl e2 F_size_r0 (g := (mkF m 11 #[.val (.ref r0), .val (.ref b2), .val (.int (0 : Int32))] [(.ref r0), (.int (0 : Int32))])) rfl rfl (hb hby d3_11)
  refine own_by (B := T3.setTop (mkF m 14 #[.val (.ref r0), .val (.ref b2), .val (.int (0 : Int32))] [(.int (1 : Int32)), (.int (0 : Int32))])) st3 ?_
  refine own_by (B := T3.setTop (mkF m 17 #[.val (.ref r0), .val (.ref b2), .val (.int (0 : Int32))] [])) (fun t k => XS.icmpNo X3.here hx rfl (hb hby d3_14) rfl (tlt (by decide)).2.1 k) ?_
  refine own_by (B := T3.setTop (mkF m 18 #[.val (.ref r0), .val (.ref b2), .val (.int (0 : Int32))] [(.ref b2)])) (fun t k => XS.aloadN X3.here hx rfl (hb hby d3_17) rfl rfl k) ?_
  refine own_by (B := T3.setTop (mkF m 19 #[.val (.ref r0), .val (.ref b2), .val (.int (0 : Int32))] [(.int (0 : Int32)), (.ref b2)])) (fun t k => XS.iloadN X3.here hx rfl (hb hby d3_18) rfl k) ?_
  refine own_by (B := T3.setTop (mkF m 20 #[.val (.ref r0), .val (.ref b2), .val (.int (0 : Int32))] [(.ref r0), (.int (0 : Int32)), (.ref b2)])) (fun t k => XS.aloadN X3.here hx rfl (hb hby d3_19) rfl rfl k) ?_
  obtain ⟨T4, X4, e4, st4⟩ := getF X3 hx hZ hown (host := "") (Or.inl (hw _ (List.mem_of_getElem? (i := 10) rfl))) Via.refl e3 F_entries_r0 (g := (mkF m 20 #[.val (.ref r0), .val (.ref b2), .val (.int (0 : Int32))] [(.ref r0), (.int (0 : Int32)), (.ref b2)])) rfl rfl (hb hby d3_20)
  refine own_by (B := T4.setTop (mkF m 23 #[.val (.ref r0), .val (.ref b2), .val (.int (0 : Int32))] [(.ref b), (.int (0 : Int32)), (.ref b2)])) st4 ?_
  refine own_by (B := T4.setTop (mkF m 24 #[.val (.ref r0), .val (.ref b2), .val (.int (0 : Int32))] [(.int (2 : Int32)), (.ref b), (.int (0 : Int32)), (.ref b2)])) (fun t k => XS.iconst X4.here hx rfl (hb hby d3_23) k) ?_
  refine own_by (B := T4.setTop (mkF m 25 #[.val (.ref r0), .val (.ref b2), .val (.int (0 : Int32))] [(.int (0 : Int32)), (.int (2 : Int32)), (.ref b), (.int (0 : Int32)), (.ref b2)])) (fun t k => XS.iloadN X4.here hx rfl (hb hby d3_24) rfl k) ?_
  refine own_by (B := T4.setTop (mkF m 26 #[.val (.ref r0), .val (.ref b2), .val (.int (0 : Int32))] [(.int (0 : Int32)), (.ref b), (.int (0 : Int32)), (.ref b2)])) (fun t k => XS.imul X4.here hx rfl (hb hby d3_25) rfl k) ?_
  obtain ⟨cl5, Ar5, hin5, hat5⟩ := V_b.at (j := (0 : Int32)) (own_in (i := 0) (by omega) (by omega))
  have hat5 := hat5.trans (congrArg some (show _ = (.int x0) from hf0))
  refine own_by (B := T4.setTop (mkF m 27 #[.val (.ref r0), .val (.ref b2), .val (.int (0 : Int32))] [(.int x0), (.int (0 : Int32)), (.ref b2)])) (fun t k => X4.iaload hx (j := (0 : Int32)) (v := (.int x0)) (by rw [e4]; exact Ar5.1) (State.isArrayOf_alike hZ.alike Ar5.2.1) Ar5.2.2 hin5 hat5 (g := (mkF m 26 #[.val (.ref r0), .val (.ref b2), .val (.int (0 : Int32))] [(.int (0 : Int32)), (.ref b), (.int (0 : Int32)), (.ref b2)])) rfl rfl (hb hby d3_26) _ k) ?_
  obtain ⟨cl6, Ar6, hin6, -⟩ := V_b2.at (j := (0 : Int32)) ⟨by decide, by decide⟩
  obtain ⟨T6, h6, X6, e6, W6, st6⟩ := stI X4 hx hZ e4 Ar6 (j := (0 : Int32)) hin6 (g := (mkF m 27 #[.val (.ref r0), .val (.ref b2), .val (.int (0 : Int32))] [(.int x0), (.int (0 : Int32)), (.ref b2)])) rfl rfl (hb hby d3_27)
  have F_size_r0 := F_size_r0.other W6 (Or.inl ne_r0_b2)
  have F_entries_r0 := F_entries_r0.other W6 (Or.inl ne_r0_b2)
  have V_b := V_b.other W6 ne_b_b2
  have V_b2 := V_b2.set W6
  have Zs : n0 ≤ h6.size := by rw [W6.size]; exact Zs
  have Kp := Kp.wr W6 (Or.inr sz_b2)
  have Nf := Fr.snoc X6 Nf g_b2
  refine own_by (B := T6.setTop (mkF m 28 #[.val (.ref r0), .val (.ref b2), .val (.int (0 : Int32))] [])) st6 ?_
  refine own_by (B := T6.setTop (mkF m 31 #[.val (.ref r0), .val (.ref b2), .val (.int (1 : Int32))] [])) (fun t k => XS.iinc X6.here hx rfl (hb hby d3_28) rfl (l' := #[.val (.ref r0), .val (.ref b2), .val (.int (1 : Int32))]) rfl k) ?_
  refine own_by (B := T6.setTop (mkF m 9 #[.val (.ref r0), .val (.ref b2), .val (.int (1 : Int32))] [])) (fun t k => XS.goto X6.here hx rfl (pc0 := 31) (pc' := 9) rfl (hb hby d3_31) (by decide) (by decide) k) ?_
  refine own_by (B := T6.setTop (mkF m 10 #[.val (.ref r0), .val (.ref b2), .val (.int (1 : Int32))] [(.int (1 : Int32))])) (fun t k => XS.iloadN X6.here hx rfl (hb hby d3_9) rfl k) ?_
  refine own_by (B := T6.setTop (mkF m 11 #[.val (.ref r0), .val (.ref b2), .val (.int (1 : Int32))] [(.ref r0), (.int (1 : Int32))])) (fun t k => XS.aloadN X6.here hx rfl (hb hby d3_10) rfl rfl k) ?_
  obtain ⟨T7, X7, e7, st7⟩ := getF X6 hx hZ hown (host := "") (Or.inl (hw _ (List.mem_of_getElem? (i := 17) rfl))) Via.refl e6 F_size_r0 (g := (mkF m 11 #[.val (.ref r0), .val (.ref b2), .val (.int (1 : Int32))] [(.ref r0), (.int (1 : Int32))])) rfl rfl (hb hby d3_11)
  refine own_by (B := T7.setTop (mkF m 14 #[.val (.ref r0), .val (.ref b2), .val (.int (1 : Int32))] [(.int (1 : Int32)), (.int (1 : Int32))])) st7 ?_
  refine own_by (B := T7.setTop (mkF m 34 #[.val (.ref r0), .val (.ref b2), .val (.int (1 : Int32))] [])) (fun t k => XS.icmpYes X7.here hx rfl (pc0 := 14) (pc' := 34) rfl (hb hby d3_14) rfl (flt (by decide)).2.1 (by decide) (by decide) k) ?_
  refine own_by (B := T7.setTop (mkF m 35 #[.val (.ref r0), .val (.ref b2), .val (.int (1 : Int32))] [(.ref b2)])) (fun t k => XS.aloadN X7.here hx rfl (hb hby d3_34) rfl rfl k) ?_
  exact own_end X7 (v := some (.ref b2)) (fun h => by rw [Bd.returns] at h; cases h) (BodyLoose.notSynchronized Bd) (Q := (Q_rmF1 Z r0 b mz f x0 h0 n0)) (fun fs hr => retOut X7 hx (t := (.array .int)) Bd.returns rfl (Or.inr (Or.inr (Or.inr (Or.inr ⟨rfl, rfl, rfl⟩)))) (hb hby d3_35) hr) (show (Q_rmF1 Z r0 b mz f x0 h0 n0) _ T7.heap _ from (by rw [e7]; exact ⟨by rw [gq2], Nf, Kp, _, by rw [← gq2]; exact V_b2, rfl⟩)) (by decide) (by decide)
theorem ef_rmF2 (m : MethodId) (x0 : Addr) : entryFrame m #[(.ref x0)] 3 = mkF m 0 #[.val (.ref x0), .unset, .unset] [] := by first | (simp [entryFrame, mkF, argsToLocals, Value.category]; done) | rfl
def Q_rmF2 (Z : State) (r0 : Addr) (b : Addr) (mz : Nat) (f : Nat → Value) (x0 : Int32) (x1 : Int32) (h0 : Heap) (n0 : Nat) (v : Option Value) (h : Heap) (L : List Loc) : Prop := v = some (.ref h0.size) ∧ Fr n0 L ∧ Keep h0 h [] ∧ ∃ g, own_Arf Z h h0.size .int (2 : Int32) g ∧ g 0 = .int x0 ∧ g 1 = .int x1
set_option maxRecDepth 65536 in
set_option maxHeartbeats 40000000 in
theorem rmF2 (l : Launch) (Z : State) (a0 : Array Value) (hw : ∀ d ∈ tables_1, d.before a0 Z = true) (ws : List Jvm.Cond) (r0 : Addr) (b : Addr) (mz : Nat) (f : Nat → Value) (x0 : Int32) (x1 : Int32) (h0 : Heap) (n0 : Nat) (Z0 : n0 ≤ h0.size) (F_size_r0 : Fld Z h0 r0 "com/example/surrogate/surrogate/index/Entries" "size" "I" (.int (2 : Int32))) (F_entries_r0 : Fld Z h0 r0 "com/example/surrogate/surrogate/index/Entries" "entries" "[I" (.ref b)) (V_b : own_Arf Z h0 b .int (Int32.ofNat mz) f) (ne_r0_b : r0 ≠ b) (hm : 4 ≤ mz) (hm12 : mz ≤ 12) (hf0 : f 0 = .int x0) (hf1 : f 2 = .int x1) :
    MetFree l (⟨"com/example/surrogate/surrogate/index/Entries", "numbers", "()[I"⟩ : MethodName) (head1 (Jvm.Cond.code (⟨"com/example/surrogate/surrogate/index/Entries", "numbers", "()[I"⟩ : MethodName) prog_20_method_7_code 3 (some (.array .int)) :: ws) ({ frames := 0, cells := 1, slots := 2, locals := 0 } : Room)) (fun a U => a = #[(.ref r0)] ∧ Z.Warmed39 U.vm ∧ U.heap = h0) (fun _ _ _ _ _ => True) (fun _ U o U' => ∃ v L, o = .returned v ∧ Q_rmF2 Z r0 b mz f x0 x1 h0 n0 v U'.heap L ∧ FrameEnd U o U' L ({ frames := 0, cells := 1, slots := 2, locals := 0 } : Room).cells ({ frames := 0, cells := 1, slots := 2, locals := 0 } : Room).slots) := by
  refine MetFree.of_bodySF (plainFor_of_name own_pn1) hisR ?_
  intro p e s m args below meth c s₁ Bd hml0 hP hK
  obtain ⟨rfl, hZ, hh⟩ := hP
  have hx := Bd.exec
  have hby := Bd.bytes
  have hml : c.maxLocals = 3 := hml0
  have hown : s.vm.findClass "com/example/surrogate/surrogate/index/Entries" = some m.cls := findClass_of_methodNamed Bd.named
  have hnm := (name_of_methodNamed Bd.named Bd.method).1
  have X0 : Stand p l e ({ frames := 0, cells := 1, slots := 2, locals := 0 } : Room) s m #[(.ref r0)] below meth c s₁ [] 0 0 := Stand.of_body Bd
  have e0 : s₁.heap = h0 := by rw [← hh, Bd.state]; rfl
  show own_Go p e below (s₁.setTop (entryFrame m #[(.ref r0)] 3)) (fun t o => ∃ v L, o = .returned v ∧ Q_rmF2 Z r0 b mz f x0 x1 h0 n0 v t.heap L ∧ FrameEnd s o t L ({ frames := 0, cells := 1, slots := 2, locals := 0 } : Room).cells ({ frames := 0, cells := 1, slots := 2, locals := 0 } : Room).slots)
  refine own_by (B := s₁.setTop (mkF m 0 #[.val (.ref r0), .unset, .unset] [])) (fun t k => castTop (ef_rmF2 m r0) k) ?_
  have Nf := Fr.nil n0
  have Zs := Z0
  have Kp := Keep.refl h0 []
  refine own_by (B := s₁.setTop (mkF m 1 #[.val (.ref r0), .unset, .unset] [(.ref r0)])) (fun t k => XS.aloadN X0.here hx rfl (hb hby d3_0) rfl rfl k) ?_
  obtain ⟨T1, X1, e1, st1⟩ := getF X0 hx hZ hown (host := "") (Or.inl (hw _ (List.mem_of_getElem? (i := 17) rfl))) Via.refl e0 F_size_r0 (g := (mkF m 1 #[.val (.ref r0), .unset, .unset] [(.ref r0)])) rfl rfl (hb hby d3_1)
  refine own_by (B := T1.setTop (mkF m 4 #[.val (.ref r0), .unset, .unset] [(.int (2 : Int32))])) st1 ?_
  obtain ⟨T2, h2, k2, X2, e2, E2, A2, st2⟩ := newP X1 hx hZ (hw _ (List.mem_of_getElem? (i := 9) rfl)) e1 (g := (mkF m 4 #[.val (.ref r0), .unset, .unset] [(.int (2 : Int32))])) rfl (hb hby d3_4) rfl (by decide) (cap := 2) (by decide) (by decide) (by decide) (by decide)
  obtain ⟨b2, gq2⟩ : ∃ z, z = h0.size := ⟨_, rfl⟩
  rw [← gq2] at A2 st2
  have ne_r0_b2 : r0 ≠ b2 := Nat.ne_of_lt (Nat.lt_of_lt_of_le F_size_r0.lt (Nat.le_of_eq gq2.symm))
  have ne_b_b2 : b ≠ b2 := Nat.ne_of_lt (Nat.lt_of_lt_of_le V_b.lt (Nat.le_of_eq gq2.symm))
  have g_b2 : n0 ≤ b2 := Nat.le_trans Zs (Nat.le_of_eq gq2.symm)
  have sz_b2 : h0.size ≤ b2 := Nat.le_trans Kp.1 (Nat.le_of_eq gq2.symm)
  have F_size_r0 := F_size_r0.ext E2
  have F_entries_r0 := F_entries_r0.ext E2
  have V_b := V_b.ext E2
  have Zs := Nat.le_trans Zs E2.1
  have Kp := Kp.ext E2
  have V_b2 := own_Arf.new A2 (by decide)
  refine own_by (B := T2.setTop (mkF m 6 #[.val (.ref r0), .unset, .unset] [(.ref b2)])) st2 ?_
  refine own_by (B := T2.setTop (mkF m 7 #[.val (.ref r0), .val (.ref b2), .unset] [])) (fun t k => XS.astoreN X2.here hx rfl (hb hby d3_6) rfl rfl (l' := #[.val (.ref r0), .val (.ref b2), .unset]) rfl k) ?_
  refine own_by (B := T2.setTop (mkF m 8 #[.val (.ref r0), .val (.ref b2), .unset] [(.int (0 : Int32))])) (fun t k => XS.iconst X2.here hx rfl (hb hby d3_7) k) ?_
  refine own_by (B := T2.setTop (mkF m 9 #[.val (.ref r0), .val (.ref b2), .val (.int (0 : Int32))] [])) (fun t k => XS.istoreN X2.here hx rfl (hb hby d3_8) rfl (l' := #[.val (.ref r0), .val (.ref b2), .val (.int (0 : Int32))]) rfl k) ?_
  refine own_by (B := T2.setTop (mkF m 10 #[.val (.ref r0), .val (.ref b2), .val (.int (0 : Int32))] [(.int (0 : Int32))])) (fun t k => XS.iloadN X2.here hx rfl (hb hby d3_9) rfl k) ?_
  refine own_by (B := T2.setTop (mkF m 11 #[.val (.ref r0), .val (.ref b2), .val (.int (0 : Int32))] [(.ref r0), (.int (0 : Int32))])) (fun t k => XS.aloadN X2.here hx rfl (hb hby d3_10) rfl rfl k) ?_
  obtain ⟨T3, X3, e3, st3⟩ := getF X2 hx hZ hown (host := "") (Or.inl (hw _ (List.mem_of_getElem? (i := 17) rfl))) Via.refl e2 F_size_r0 (g := (mkF m 11 #[.val (.ref r0), .val (.ref b2), .val (.int (0 : Int32))] [(.ref r0), (.int (0 : Int32))])) rfl rfl (hb hby d3_11)
  refine own_by (B := T3.setTop (mkF m 14 #[.val (.ref r0), .val (.ref b2), .val (.int (0 : Int32))] [(.int (2 : Int32)), (.int (0 : Int32))])) st3 ?_
  refine own_by (B := T3.setTop (mkF m 17 #[.val (.ref r0), .val (.ref b2), .val (.int (0 : Int32))] [])) (fun t k => XS.icmpNo X3.here hx rfl (hb hby d3_14) rfl (tlt (by decide)).2.1 k) ?_
  refine own_by (B := T3.setTop (mkF m 18 #[.val (.ref r0), .val (.ref b2), .val (.int (0 : Int32))] [(.ref b2)])) (fun t k => XS.aloadN X3.here hx rfl (hb hby d3_17) rfl rfl k) ?_
  refine own_by (B := T3.setTop (mkF m 19 #[.val (.ref r0), .val (.ref b2), .val (.int (0 : Int32))] [(.int (0 : Int32)), (.ref b2)])) (fun t k => XS.iloadN X3.here hx rfl (hb hby d3_18) rfl k) ?_
  refine own_by (B := T3.setTop (mkF m 20 #[.val (.ref r0), .val (.ref b2), .val (.int (0 : Int32))] [(.ref r0), (.int (0 : Int32)), (.ref b2)])) (fun t k => XS.aloadN X3.here hx rfl (hb hby d3_19) rfl rfl k) ?_
  obtain ⟨T4, X4, e4, st4⟩ := getF X3 hx hZ hown (host := "") (Or.inl (hw _ (List.mem_of_getElem? (i := 10) rfl))) Via.refl e3 F_entries_r0 (g := (mkF m 20 #[.val (.ref r0), .val (.ref b2), .val (.int (0 : Int32))] [(.ref r0), (.int (0 : Int32)), (.ref b2)])) rfl rfl (hb hby d3_20)
  refine own_by (B := T4.setTop (mkF m 23 #[.val (.ref r0), .val (.ref b2), .val (.int (0 : Int32))] [(.ref b), (.int (0 : Int32)), (.ref b2)])) st4 ?_
  refine own_by (B := T4.setTop (mkF m 24 #[.val (.ref r0), .val (.ref b2), .val (.int (0 : Int32))] [(.int (2 : Int32)), (.ref b), (.int (0 : Int32)), (.ref b2)])) (fun t k => XS.iconst X4.here hx rfl (hb hby d3_23) k) ?_
  refine own_by (B := T4.setTop (mkF m 25 #[.val (.ref r0), .val (.ref b2), .val (.int (0 : Int32))] [(.int (0 : Int32)), (.int (2 : Int32)), (.ref b), (.int (0 : Int32)), (.ref b2)])) (fun t k => XS.iloadN X4.here hx rfl (hb hby d3_24) rfl k) ?_
  refine own_by (B := T4.setTop (mkF m 26 #[.val (.ref r0), .val (.ref b2), .val (.int (0 : Int32))] [(.int (0 : Int32)), (.ref b), (.int (0 : Int32)), (.ref b2)])) (fun t k => XS.imul X4.here hx rfl (hb hby d3_25) rfl k) ?_
  obtain ⟨cl5, Ar5, hin5, hat5⟩ := V_b.at (j := (0 : Int32)) (own_in (i := 0) (by omega) (by omega))
  have hat5 := hat5.trans (congrArg some (show _ = (.int x0) from hf0))
  refine own_by (B := T4.setTop (mkF m 27 #[.val (.ref r0), .val (.ref b2), .val (.int (0 : Int32))] [(.int x0), (.int (0 : Int32)), (.ref b2)])) (fun t k => X4.iaload hx (j := (0 : Int32)) (v := (.int x0)) (by rw [e4]; exact Ar5.1) (State.isArrayOf_alike hZ.alike Ar5.2.1) Ar5.2.2 hin5 hat5 (g := (mkF m 26 #[.val (.ref r0), .val (.ref b2), .val (.int (0 : Int32))] [(.int (0 : Int32)), (.ref b), (.int (0 : Int32)), (.ref b2)])) rfl rfl (hb hby d3_26) _ k) ?_
  obtain ⟨cl6, Ar6, hin6, -⟩ := V_b2.at (j := (0 : Int32)) ⟨by decide, by decide⟩
  obtain ⟨T6, h6, X6, e6, W6, st6⟩ := stI X4 hx hZ e4 Ar6 (j := (0 : Int32)) hin6 (g := (mkF m 27 #[.val (.ref r0), .val (.ref b2), .val (.int (0 : Int32))] [(.int x0), (.int (0 : Int32)), (.ref b2)])) rfl rfl (hb hby d3_27)
  have F_size_r0 := F_size_r0.other W6 (Or.inl ne_r0_b2)
  have F_entries_r0 := F_entries_r0.other W6 (Or.inl ne_r0_b2)
  have V_b := V_b.other W6 ne_b_b2
  have V_b2 := V_b2.set W6
  have Zs : n0 ≤ h6.size := by rw [W6.size]; exact Zs
  have Kp := Kp.wr W6 (Or.inr sz_b2)
  have Nf := Fr.snoc X6 Nf g_b2
  refine own_by (B := T6.setTop (mkF m 28 #[.val (.ref r0), .val (.ref b2), .val (.int (0 : Int32))] [])) st6 ?_
  refine own_by (B := T6.setTop (mkF m 31 #[.val (.ref r0), .val (.ref b2), .val (.int (1 : Int32))] [])) (fun t k => XS.iinc X6.here hx rfl (hb hby d3_28) rfl (l' := #[.val (.ref r0), .val (.ref b2), .val (.int (1 : Int32))]) rfl k) ?_
  refine own_by (B := T6.setTop (mkF m 9 #[.val (.ref r0), .val (.ref b2), .val (.int (1 : Int32))] [])) (fun t k => XS.goto X6.here hx rfl (pc0 := 31) (pc' := 9) rfl (hb hby d3_31) (by decide) (by decide) k) ?_
  refine own_by (B := T6.setTop (mkF m 10 #[.val (.ref r0), .val (.ref b2), .val (.int (1 : Int32))] [(.int (1 : Int32))])) (fun t k => XS.iloadN X6.here hx rfl (hb hby d3_9) rfl k) ?_
  refine own_by (B := T6.setTop (mkF m 11 #[.val (.ref r0), .val (.ref b2), .val (.int (1 : Int32))] [(.ref r0), (.int (1 : Int32))])) (fun t k => XS.aloadN X6.here hx rfl (hb hby d3_10) rfl rfl k) ?_
  obtain ⟨T7, X7, e7, st7⟩ := getF X6 hx hZ hown (host := "") (Or.inl (hw _ (List.mem_of_getElem? (i := 17) rfl))) Via.refl e6 F_size_r0 (g := (mkF m 11 #[.val (.ref r0), .val (.ref b2), .val (.int (1 : Int32))] [(.ref r0), (.int (1 : Int32))])) rfl rfl (hb hby d3_11)
  refine own_by (B := T7.setTop (mkF m 14 #[.val (.ref r0), .val (.ref b2), .val (.int (1 : Int32))] [(.int (2 : Int32)), (.int (1 : Int32))])) st7 ?_
  refine own_by (B := T7.setTop (mkF m 17 #[.val (.ref r0), .val (.ref b2), .val (.int (1 : Int32))] [])) (fun t k => XS.icmpNo X7.here hx rfl (hb hby d3_14) rfl (tlt (by decide)).2.1 k) ?_
  refine own_by (B := T7.setTop (mkF m 18 #[.val (.ref r0), .val (.ref b2), .val (.int (1 : Int32))] [(.ref b2)])) (fun t k => XS.aloadN X7.here hx rfl (hb hby d3_17) rfl rfl k) ?_
  refine own_by (B := T7.setTop (mkF m 19 #[.val (.ref r0), .val (.ref b2), .val (.int (1 : Int32))] [(.int (1 : Int32)), (.ref b2)])) (fun t k => XS.iloadN X7.here hx rfl (hb hby d3_18) rfl k) ?_
  refine own_by (B := T7.setTop (mkF m 20 #[.val (.ref r0), .val (.ref b2), .val (.int (1 : Int32))] [(.ref r0), (.int (1 : Int32)), (.ref b2)])) (fun t k => XS.aloadN X7.here hx rfl (hb hby d3_19) rfl rfl k) ?_
  obtain ⟨T8, X8, e8, st8⟩ := getF X7 hx hZ hown (host := "") (Or.inl (hw _ (List.mem_of_getElem? (i := 10) rfl))) Via.refl e7 F_entries_r0 (g := (mkF m 20 #[.val (.ref r0), .val (.ref b2), .val (.int (1 : Int32))] [(.ref r0), (.int (1 : Int32)), (.ref b2)])) rfl rfl (hb hby d3_20)
  refine own_by (B := T8.setTop (mkF m 23 #[.val (.ref r0), .val (.ref b2), .val (.int (1 : Int32))] [(.ref b), (.int (1 : Int32)), (.ref b2)])) st8 ?_
  refine own_by (B := T8.setTop (mkF m 24 #[.val (.ref r0), .val (.ref b2), .val (.int (1 : Int32))] [(.int (2 : Int32)), (.ref b), (.int (1 : Int32)), (.ref b2)])) (fun t k => XS.iconst X8.here hx rfl (hb hby d3_23) k) ?_
  refine own_by (B := T8.setTop (mkF m 25 #[.val (.ref r0), .val (.ref b2), .val (.int (1 : Int32))] [(.int (1 : Int32)), (.int (2 : Int32)), (.ref b), (.int (1 : Int32)), (.ref b2)])) (fun t k => XS.iloadN X8.here hx rfl (hb hby d3_24) rfl k) ?_
  refine own_by (B := T8.setTop (mkF m 26 #[.val (.ref r0), .val (.ref b2), .val (.int (1 : Int32))] [(.int (2 : Int32)), (.ref b), (.int (1 : Int32)), (.ref b2)])) (fun t k => XS.imul X8.here hx rfl (hb hby d3_25) rfl k) ?_
  obtain ⟨cl9, Ar9, hin9, hat9⟩ := V_b.at (j := (2 : Int32)) (own_in (i := 2) (by omega) (by omega))
  have hat9 := hat9.trans (congrArg some (show _ = (.int x1) from hf1))
  refine own_by (B := T8.setTop (mkF m 27 #[.val (.ref r0), .val (.ref b2), .val (.int (1 : Int32))] [(.int x1), (.int (1 : Int32)), (.ref b2)])) (fun t k => X8.iaload hx (j := (2 : Int32)) (v := (.int x1)) (by rw [e8]; exact Ar9.1) (State.isArrayOf_alike hZ.alike Ar9.2.1) Ar9.2.2 hin9 hat9 (g := (mkF m 26 #[.val (.ref r0), .val (.ref b2), .val (.int (1 : Int32))] [(.int (2 : Int32)), (.ref b), (.int (1 : Int32)), (.ref b2)])) rfl rfl (hb hby d3_26) _ k) ?_
  obtain ⟨cl10, Ar10, hin10, -⟩ := V_b2.at (j := (1 : Int32)) ⟨by decide, by decide⟩
  obtain ⟨T10, h10, X10, e10, W10, st10⟩ := stI X8 hx hZ e8 Ar10 (j := (1 : Int32)) hin10 (g := (mkF m 27 #[.val (.ref r0), .val (.ref b2), .val (.int (1 : Int32))] [(.int x1), (.int (1 : Int32)), (.ref b2)])) rfl rfl (hb hby d3_27)
  have F_size_r0 := F_size_r0.other W10 (Or.inl ne_r0_b2)
  have F_entries_r0 := F_entries_r0.other W10 (Or.inl ne_r0_b2)
  have V_b := V_b.other W10 ne_b_b2
  have V_b2 := V_b2.set W10
  have Zs : n0 ≤ h10.size := by rw [W10.size]; exact Zs
  have Kp := Kp.wr W10 (Or.inr sz_b2)
  have Nf := Fr.snoc X10 Nf g_b2
  refine own_by (B := T10.setTop (mkF m 28 #[.val (.ref r0), .val (.ref b2), .val (.int (1 : Int32))] [])) st10 ?_
  refine own_by (B := T10.setTop (mkF m 31 #[.val (.ref r0), .val (.ref b2), .val (.int (2 : Int32))] [])) (fun t k => XS.iinc X10.here hx rfl (hb hby d3_28) rfl (l' := #[.val (.ref r0), .val (.ref b2), .val (.int (2 : Int32))]) rfl k) ?_
  refine own_by (B := T10.setTop (mkF m 9 #[.val (.ref r0), .val (.ref b2), .val (.int (2 : Int32))] [])) (fun t k => XS.goto X10.here hx rfl (pc0 := 31) (pc' := 9) rfl (hb hby d3_31) (by decide) (by decide) k) ?_
  refine own_by (B := T10.setTop (mkF m 10 #[.val (.ref r0), .val (.ref b2), .val (.int (2 : Int32))] [(.int (2 : Int32))])) (fun t k => XS.iloadN X10.here hx rfl (hb hby d3_9) rfl k) ?_
  refine own_by (B := T10.setTop (mkF m 11 #[.val (.ref r0), .val (.ref b2), .val (.int (2 : Int32))] [(.ref r0), (.int (2 : Int32))])) (fun t k => XS.aloadN X10.here hx rfl (hb hby d3_10) rfl rfl k) ?_
  obtain ⟨T11, X11, e11, st11⟩ := getF X10 hx hZ hown (host := "") (Or.inl (hw _ (List.mem_of_getElem? (i := 17) rfl))) Via.refl e10 F_size_r0 (g := (mkF m 11 #[.val (.ref r0), .val (.ref b2), .val (.int (2 : Int32))] [(.ref r0), (.int (2 : Int32))])) rfl rfl (hb hby d3_11)
  refine own_by (B := T11.setTop (mkF m 14 #[.val (.ref r0), .val (.ref b2), .val (.int (2 : Int32))] [(.int (2 : Int32)), (.int (2 : Int32))])) st11 ?_
  refine own_by (B := T11.setTop (mkF m 34 #[.val (.ref r0), .val (.ref b2), .val (.int (2 : Int32))] [])) (fun t k => XS.icmpYes X11.here hx rfl (pc0 := 14) (pc' := 34) rfl (hb hby d3_14) rfl (flt (by decide)).2.1 (by decide) (by decide) k) ?_
  refine own_by (B := T11.setTop (mkF m 35 #[.val (.ref r0), .val (.ref b2), .val (.int (2 : Int32))] [(.ref b2)])) (fun t k => XS.aloadN X11.here hx rfl (hb hby d3_34) rfl rfl k) ?_
  exact own_end X11 (v := some (.ref b2)) (fun h => by rw [Bd.returns] at h; cases h) (BodyLoose.notSynchronized Bd) (Q := (Q_rmF2 Z r0 b mz f x0 x1 h0 n0)) (fun fs hr => retOut X11 hx (t := (.array .int)) Bd.returns rfl (Or.inr (Or.inr (Or.inr (Or.inr ⟨rfl, rfl, rfl⟩)))) (hb hby d3_35) hr) (show (Q_rmF2 Z r0 b mz f x0 x1 h0 n0) _ T11.heap _ from (by rw [e11]; exact ⟨by rw [gq2], Nf, Kp, _, by rw [← gq2]; exact V_b2, rfl, rfl⟩)) (by decide) (by decide)
theorem ef_rmF3 (m : MethodId) (x0 : Addr) : entryFrame m #[(.ref x0)] 3 = mkF m 0 #[.val (.ref x0), .unset, .unset] [] := by first | (simp [entryFrame, mkF, argsToLocals, Value.category]; done) | rfl
def Q_rmF3 (Z : State) (r0 : Addr) (b : Addr) (mz : Nat) (f : Nat → Value) (x0 : Int32) (x1 : Int32) (x2 : Int32) (h0 : Heap) (n0 : Nat) (v : Option Value) (h : Heap) (L : List Loc) : Prop := v = some (.ref h0.size) ∧ Fr n0 L ∧ Keep h0 h [] ∧ ∃ g, own_Arf Z h h0.size .int (3 : Int32) g ∧ g 0 = .int x0 ∧ g 1 = .int x1 ∧ g 2 = .int x2
set_option maxRecDepth 65536 in
set_option maxHeartbeats 40000000 in
theorem rmF3 (l : Launch) (Z : State) (a0 : Array Value) (hw : ∀ d ∈ tables_1, d.before a0 Z = true) (ws : List Jvm.Cond) (r0 : Addr) (b : Addr) (mz : Nat) (f : Nat → Value) (x0 : Int32) (x1 : Int32) (x2 : Int32) (h0 : Heap) (n0 : Nat) (Z0 : n0 ≤ h0.size) (F_size_r0 : Fld Z h0 r0 "com/example/surrogate/surrogate/index/Entries" "size" "I" (.int (3 : Int32))) (F_entries_r0 : Fld Z h0 r0 "com/example/surrogate/surrogate/index/Entries" "entries" "[I" (.ref b)) (V_b : own_Arf Z h0 b .int (Int32.ofNat mz) f) (ne_r0_b : r0 ≠ b) (hm : 6 ≤ mz) (hm12 : mz ≤ 12) (hf0 : f 0 = .int x0) (hf1 : f 2 = .int x1) (hf2 : f 4 = .int x2) :
    MetFree l (⟨"com/example/surrogate/surrogate/index/Entries", "numbers", "()[I"⟩ : MethodName) (head1 (Jvm.Cond.code (⟨"com/example/surrogate/surrogate/index/Entries", "numbers", "()[I"⟩ : MethodName) prog_20_method_7_code 3 (some (.array .int)) :: ws) ({ frames := 0, cells := 1, slots := 3, locals := 0 } : Room)) (fun a U => a = #[(.ref r0)] ∧ Z.Warmed39 U.vm ∧ U.heap = h0) (fun _ _ _ _ _ => True) (fun _ U o U' => ∃ v L, o = .returned v ∧ Q_rmF3 Z r0 b mz f x0 x1 x2 h0 n0 v U'.heap L ∧ FrameEnd U o U' L ({ frames := 0, cells := 1, slots := 3, locals := 0 } : Room).cells ({ frames := 0, cells := 1, slots := 3, locals := 0 } : Room).slots) := by
  refine MetFree.of_bodySF (plainFor_of_name own_pn1) hisR ?_
  intro p e s m args below meth c s₁ Bd hml0 hP hK
  obtain ⟨rfl, hZ, hh⟩ := hP
  have hx := Bd.exec
  have hby := Bd.bytes
  have hml : c.maxLocals = 3 := hml0
  have hown : s.vm.findClass "com/example/surrogate/surrogate/index/Entries" = some m.cls := findClass_of_methodNamed Bd.named
  have hnm := (name_of_methodNamed Bd.named Bd.method).1
  have X0 : Stand p l e ({ frames := 0, cells := 1, slots := 3, locals := 0 } : Room) s m #[(.ref r0)] below meth c s₁ [] 0 0 := Stand.of_body Bd
  have e0 : s₁.heap = h0 := by rw [← hh, Bd.state]; rfl
  show own_Go p e below (s₁.setTop (entryFrame m #[(.ref r0)] 3)) (fun t o => ∃ v L, o = .returned v ∧ Q_rmF3 Z r0 b mz f x0 x1 x2 h0 n0 v t.heap L ∧ FrameEnd s o t L ({ frames := 0, cells := 1, slots := 3, locals := 0 } : Room).cells ({ frames := 0, cells := 1, slots := 3, locals := 0 } : Room).slots)
  refine own_by (B := s₁.setTop (mkF m 0 #[.val (.ref r0), .unset, .unset] [])) (fun t k => castTop (ef_rmF3 m r0) k) ?_
  have Nf := Fr.nil n0
  have Zs := Z0
  have Kp := Keep.refl h0 []
  refine own_by (B := s₁.setTop (mkF m 1 #[.val (.ref r0), .unset, .unset] [(.ref r0)])) (fun t k => XS.aloadN X0.here hx rfl (hb hby d3_0) rfl rfl k) ?_
  obtain ⟨T1, X1, e1, st1⟩ := getF X0 hx hZ hown (host := "") (Or.inl (hw _ (List.mem_of_getElem? (i := 17) rfl))) Via.refl e0 F_size_r0 (g := (mkF m 1 #[.val (.ref r0), .unset, .unset] [(.ref r0)])) rfl rfl (hb hby d3_1)
  refine own_by (B := T1.setTop (mkF m 4 #[.val (.ref r0), .unset, .unset] [(.int (3 : Int32))])) st1 ?_
  obtain ⟨T2, h2, k2, X2, e2, E2, A2, st2⟩ := newP X1 hx hZ (hw _ (List.mem_of_getElem? (i := 9) rfl)) e1 (g := (mkF m 4 #[.val (.ref r0), .unset, .unset] [(.int (3 : Int32))])) rfl (hb hby d3_4) rfl (by decide) (cap := 3) (by decide) (by decide) (by decide) (by decide)
  obtain ⟨b2, gq2⟩ : ∃ z, z = h0.size := ⟨_, rfl⟩
  rw [← gq2] at A2 st2
  have ne_r0_b2 : r0 ≠ b2 := Nat.ne_of_lt (Nat.lt_of_lt_of_le F_size_r0.lt (Nat.le_of_eq gq2.symm))
  have ne_b_b2 : b ≠ b2 := Nat.ne_of_lt (Nat.lt_of_lt_of_le V_b.lt (Nat.le_of_eq gq2.symm))
  have g_b2 : n0 ≤ b2 := Nat.le_trans Zs (Nat.le_of_eq gq2.symm)
  have sz_b2 : h0.size ≤ b2 := Nat.le_trans Kp.1 (Nat.le_of_eq gq2.symm)
  have F_size_r0 := F_size_r0.ext E2
  have F_entries_r0 := F_entries_r0.ext E2
  have V_b := V_b.ext E2
  have Zs := Nat.le_trans Zs E2.1
  have Kp := Kp.ext E2
  have V_b2 := own_Arf.new A2 (by decide)
  refine own_by (B := T2.setTop (mkF m 6 #[.val (.ref r0), .unset, .unset] [(.ref b2)])) st2 ?_
  refine own_by (B := T2.setTop (mkF m 7 #[.val (.ref r0), .val (.ref b2), .unset] [])) (fun t k => XS.astoreN X2.here hx rfl (hb hby d3_6) rfl rfl (l' := #[.val (.ref r0), .val (.ref b2), .unset]) rfl k) ?_
  refine own_by (B := T2.setTop (mkF m 8 #[.val (.ref r0), .val (.ref b2), .unset] [(.int (0 : Int32))])) (fun t k => XS.iconst X2.here hx rfl (hb hby d3_7) k) ?_
  refine own_by (B := T2.setTop (mkF m 9 #[.val (.ref r0), .val (.ref b2), .val (.int (0 : Int32))] [])) (fun t k => XS.istoreN X2.here hx rfl (hb hby d3_8) rfl (l' := #[.val (.ref r0), .val (.ref b2), .val (.int (0 : Int32))]) rfl k) ?_
  refine own_by (B := T2.setTop (mkF m 10 #[.val (.ref r0), .val (.ref b2), .val (.int (0 : Int32))] [(.int (0 : Int32))])) (fun t k => XS.iloadN X2.here hx rfl (hb hby d3_9) rfl k) ?_
  refine own_by (B := T2.setTop (mkF m 11 #[.val (.ref r0), .val (.ref b2), .val (.int (0 : Int32))] [(.ref r0), (.int (0 : Int32))])) (fun t k => XS.aloadN X2.here hx rfl (hb hby d3_10) rfl rfl k) ?_
  obtain ⟨T3, X3, e3, st3⟩ := getF X2 hx hZ hown (host := "") (Or.inl (hw _ (List.mem_of_getElem? (i := 17) rfl))) Via.refl e2 F_size_r0 (g := (mkF m 11 #[.val (.ref r0), .val (.ref b2), .val (.int (0 : Int32))] [(.ref r0), (.int (0 : Int32))])) rfl rfl (hb hby d3_11)
  refine own_by (B := T3.setTop (mkF m 14 #[.val (.ref r0), .val (.ref b2), .val (.int (0 : Int32))] [(.int (3 : Int32)), (.int (0 : Int32))])) st3 ?_
  refine own_by (B := T3.setTop (mkF m 17 #[.val (.ref r0), .val (.ref b2), .val (.int (0 : Int32))] [])) (fun t k => XS.icmpNo X3.here hx rfl (hb hby d3_14) rfl (tlt (by decide)).2.1 k) ?_
  refine own_by (B := T3.setTop (mkF m 18 #[.val (.ref r0), .val (.ref b2), .val (.int (0 : Int32))] [(.ref b2)])) (fun t k => XS.aloadN X3.here hx rfl (hb hby d3_17) rfl rfl k) ?_
  refine own_by (B := T3.setTop (mkF m 19 #[.val (.ref r0), .val (.ref b2), .val (.int (0 : Int32))] [(.int (0 : Int32)), (.ref b2)])) (fun t k => XS.iloadN X3.here hx rfl (hb hby d3_18) rfl k) ?_
  refine own_by (B := T3.setTop (mkF m 20 #[.val (.ref r0), .val (.ref b2), .val (.int (0 : Int32))] [(.ref r0), (.int (0 : Int32)), (.ref b2)])) (fun t k => XS.aloadN X3.here hx rfl (hb hby d3_19) rfl rfl k) ?_
  obtain ⟨T4, X4, e4, st4⟩ := getF X3 hx hZ hown (host := "") (Or.inl (hw _ (List.mem_of_getElem? (i := 10) rfl))) Via.refl e3 F_entries_r0 (g := (mkF m 20 #[.val (.ref r0), .val (.ref b2), .val (.int (0 : Int32))] [(.ref r0), (.int (0 : Int32)), (.ref b2)])) rfl rfl (hb hby d3_20)
  refine own_by (B := T4.setTop (mkF m 23 #[.val (.ref r0), .val (.ref b2), .val (.int (0 : Int32))] [(.ref b), (.int (0 : Int32)), (.ref b2)])) st4 ?_
  refine own_by (B := T4.setTop (mkF m 24 #[.val (.ref r0), .val (.ref b2), .val (.int (0 : Int32))] [(.int (2 : Int32)), (.ref b), (.int (0 : Int32)), (.ref b2)])) (fun t k => XS.iconst X4.here hx rfl (hb hby d3_23) k) ?_
  refine own_by (B := T4.setTop (mkF m 25 #[.val (.ref r0), .val (.ref b2), .val (.int (0 : Int32))] [(.int (0 : Int32)), (.int (2 : Int32)), (.ref b), (.int (0 : Int32)), (.ref b2)])) (fun t k => XS.iloadN X4.here hx rfl (hb hby d3_24) rfl k) ?_
  refine own_by (B := T4.setTop (mkF m 26 #[.val (.ref r0), .val (.ref b2), .val (.int (0 : Int32))] [(.int (0 : Int32)), (.ref b), (.int (0 : Int32)), (.ref b2)])) (fun t k => XS.imul X4.here hx rfl (hb hby d3_25) rfl k) ?_
  obtain ⟨cl5, Ar5, hin5, hat5⟩ := V_b.at (j := (0 : Int32)) (own_in (i := 0) (by omega) (by omega))
  have hat5 := hat5.trans (congrArg some (show _ = (.int x0) from hf0))
  refine own_by (B := T4.setTop (mkF m 27 #[.val (.ref r0), .val (.ref b2), .val (.int (0 : Int32))] [(.int x0), (.int (0 : Int32)), (.ref b2)])) (fun t k => X4.iaload hx (j := (0 : Int32)) (v := (.int x0)) (by rw [e4]; exact Ar5.1) (State.isArrayOf_alike hZ.alike Ar5.2.1) Ar5.2.2 hin5 hat5 (g := (mkF m 26 #[.val (.ref r0), .val (.ref b2), .val (.int (0 : Int32))] [(.int (0 : Int32)), (.ref b), (.int (0 : Int32)), (.ref b2)])) rfl rfl (hb hby d3_26) _ k) ?_
  obtain ⟨cl6, Ar6, hin6, -⟩ := V_b2.at (j := (0 : Int32)) ⟨by decide, by decide⟩
  obtain ⟨T6, h6, X6, e6, W6, st6⟩ := stI X4 hx hZ e4 Ar6 (j := (0 : Int32)) hin6 (g := (mkF m 27 #[.val (.ref r0), .val (.ref b2), .val (.int (0 : Int32))] [(.int x0), (.int (0 : Int32)), (.ref b2)])) rfl rfl (hb hby d3_27)
  have F_size_r0 := F_size_r0.other W6 (Or.inl ne_r0_b2)
  have F_entries_r0 := F_entries_r0.other W6 (Or.inl ne_r0_b2)
  have V_b := V_b.other W6 ne_b_b2
  have V_b2 := V_b2.set W6
  have Zs : n0 ≤ h6.size := by rw [W6.size]; exact Zs
  have Kp := Kp.wr W6 (Or.inr sz_b2)
  have Nf := Fr.snoc X6 Nf g_b2
  refine own_by (B := T6.setTop (mkF m 28 #[.val (.ref r0), .val (.ref b2), .val (.int (0 : Int32))] [])) st6 ?_
  refine own_by (B := T6.setTop (mkF m 31 #[.val (.ref r0), .val (.ref b2), .val (.int (1 : Int32))] [])) (fun t k => XS.iinc X6.here hx rfl (hb hby d3_28) rfl (l' := #[.val (.ref r0), .val (.ref b2), .val (.int (1 : Int32))]) rfl k) ?_
  refine own_by (B := T6.setTop (mkF m 9 #[.val (.ref r0), .val (.ref b2), .val (.int (1 : Int32))] [])) (fun t k => XS.goto X6.here hx rfl (pc0 := 31) (pc' := 9) rfl (hb hby d3_31) (by decide) (by decide) k) ?_
  refine own_by (B := T6.setTop (mkF m 10 #[.val (.ref r0), .val (.ref b2), .val (.int (1 : Int32))] [(.int (1 : Int32))])) (fun t k => XS.iloadN X6.here hx rfl (hb hby d3_9) rfl k) ?_
  refine own_by (B := T6.setTop (mkF m 11 #[.val (.ref r0), .val (.ref b2), .val (.int (1 : Int32))] [(.ref r0), (.int (1 : Int32))])) (fun t k => XS.aloadN X6.here hx rfl (hb hby d3_10) rfl rfl k) ?_
  obtain ⟨T7, X7, e7, st7⟩ := getF X6 hx hZ hown (host := "") (Or.inl (hw _ (List.mem_of_getElem? (i := 17) rfl))) Via.refl e6 F_size_r0 (g := (mkF m 11 #[.val (.ref r0), .val (.ref b2), .val (.int (1 : Int32))] [(.ref r0), (.int (1 : Int32))])) rfl rfl (hb hby d3_11)
  refine own_by (B := T7.setTop (mkF m 14 #[.val (.ref r0), .val (.ref b2), .val (.int (1 : Int32))] [(.int (3 : Int32)), (.int (1 : Int32))])) st7 ?_
  refine own_by (B := T7.setTop (mkF m 17 #[.val (.ref r0), .val (.ref b2), .val (.int (1 : Int32))] [])) (fun t k => XS.icmpNo X7.here hx rfl (hb hby d3_14) rfl (tlt (by decide)).2.1 k) ?_
  refine own_by (B := T7.setTop (mkF m 18 #[.val (.ref r0), .val (.ref b2), .val (.int (1 : Int32))] [(.ref b2)])) (fun t k => XS.aloadN X7.here hx rfl (hb hby d3_17) rfl rfl k) ?_
  refine own_by (B := T7.setTop (mkF m 19 #[.val (.ref r0), .val (.ref b2), .val (.int (1 : Int32))] [(.int (1 : Int32)), (.ref b2)])) (fun t k => XS.iloadN X7.here hx rfl (hb hby d3_18) rfl k) ?_
  refine own_by (B := T7.setTop (mkF m 20 #[.val (.ref r0), .val (.ref b2), .val (.int (1 : Int32))] [(.ref r0), (.int (1 : Int32)), (.ref b2)])) (fun t k => XS.aloadN X7.here hx rfl (hb hby d3_19) rfl rfl k) ?_
  obtain ⟨T8, X8, e8, st8⟩ := getF X7 hx hZ hown (host := "") (Or.inl (hw _ (List.mem_of_getElem? (i := 10) rfl))) Via.refl e7 F_entries_r0 (g := (mkF m 20 #[.val (.ref r0), .val (.ref b2), .val (.int (1 : Int32))] [(.ref r0), (.int (1 : Int32)), (.ref b2)])) rfl rfl (hb hby d3_20)
  refine own_by (B := T8.setTop (mkF m 23 #[.val (.ref r0), .val (.ref b2), .val (.int (1 : Int32))] [(.ref b), (.int (1 : Int32)), (.ref b2)])) st8 ?_
  refine own_by (B := T8.setTop (mkF m 24 #[.val (.ref r0), .val (.ref b2), .val (.int (1 : Int32))] [(.int (2 : Int32)), (.ref b), (.int (1 : Int32)), (.ref b2)])) (fun t k => XS.iconst X8.here hx rfl (hb hby d3_23) k) ?_
  refine own_by (B := T8.setTop (mkF m 25 #[.val (.ref r0), .val (.ref b2), .val (.int (1 : Int32))] [(.int (1 : Int32)), (.int (2 : Int32)), (.ref b), (.int (1 : Int32)), (.ref b2)])) (fun t k => XS.iloadN X8.here hx rfl (hb hby d3_24) rfl k) ?_
  refine own_by (B := T8.setTop (mkF m 26 #[.val (.ref r0), .val (.ref b2), .val (.int (1 : Int32))] [(.int (2 : Int32)), (.ref b), (.int (1 : Int32)), (.ref b2)])) (fun t k => XS.imul X8.here hx rfl (hb hby d3_25) rfl k) ?_
  obtain ⟨cl9, Ar9, hin9, hat9⟩ := V_b.at (j := (2 : Int32)) (own_in (i := 2) (by omega) (by omega))
  have hat9 := hat9.trans (congrArg some (show _ = (.int x1) from hf1))
  refine own_by (B := T8.setTop (mkF m 27 #[.val (.ref r0), .val (.ref b2), .val (.int (1 : Int32))] [(.int x1), (.int (1 : Int32)), (.ref b2)])) (fun t k => X8.iaload hx (j := (2 : Int32)) (v := (.int x1)) (by rw [e8]; exact Ar9.1) (State.isArrayOf_alike hZ.alike Ar9.2.1) Ar9.2.2 hin9 hat9 (g := (mkF m 26 #[.val (.ref r0), .val (.ref b2), .val (.int (1 : Int32))] [(.int (2 : Int32)), (.ref b), (.int (1 : Int32)), (.ref b2)])) rfl rfl (hb hby d3_26) _ k) ?_
  obtain ⟨cl10, Ar10, hin10, -⟩ := V_b2.at (j := (1 : Int32)) ⟨by decide, by decide⟩
  obtain ⟨T10, h10, X10, e10, W10, st10⟩ := stI X8 hx hZ e8 Ar10 (j := (1 : Int32)) hin10 (g := (mkF m 27 #[.val (.ref r0), .val (.ref b2), .val (.int (1 : Int32))] [(.int x1), (.int (1 : Int32)), (.ref b2)])) rfl rfl (hb hby d3_27)
  have F_size_r0 := F_size_r0.other W10 (Or.inl ne_r0_b2)
  have F_entries_r0 := F_entries_r0.other W10 (Or.inl ne_r0_b2)
  have V_b := V_b.other W10 ne_b_b2
  have V_b2 := V_b2.set W10
  have Zs : n0 ≤ h10.size := by rw [W10.size]; exact Zs
  have Kp := Kp.wr W10 (Or.inr sz_b2)
  have Nf := Fr.snoc X10 Nf g_b2
  refine own_by (B := T10.setTop (mkF m 28 #[.val (.ref r0), .val (.ref b2), .val (.int (1 : Int32))] [])) st10 ?_
  refine own_by (B := T10.setTop (mkF m 31 #[.val (.ref r0), .val (.ref b2), .val (.int (2 : Int32))] [])) (fun t k => XS.iinc X10.here hx rfl (hb hby d3_28) rfl (l' := #[.val (.ref r0), .val (.ref b2), .val (.int (2 : Int32))]) rfl k) ?_
  refine own_by (B := T10.setTop (mkF m 9 #[.val (.ref r0), .val (.ref b2), .val (.int (2 : Int32))] [])) (fun t k => XS.goto X10.here hx rfl (pc0 := 31) (pc' := 9) rfl (hb hby d3_31) (by decide) (by decide) k) ?_
  refine own_by (B := T10.setTop (mkF m 10 #[.val (.ref r0), .val (.ref b2), .val (.int (2 : Int32))] [(.int (2 : Int32))])) (fun t k => XS.iloadN X10.here hx rfl (hb hby d3_9) rfl k) ?_
  refine own_by (B := T10.setTop (mkF m 11 #[.val (.ref r0), .val (.ref b2), .val (.int (2 : Int32))] [(.ref r0), (.int (2 : Int32))])) (fun t k => XS.aloadN X10.here hx rfl (hb hby d3_10) rfl rfl k) ?_
  obtain ⟨T11, X11, e11, st11⟩ := getF X10 hx hZ hown (host := "") (Or.inl (hw _ (List.mem_of_getElem? (i := 17) rfl))) Via.refl e10 F_size_r0 (g := (mkF m 11 #[.val (.ref r0), .val (.ref b2), .val (.int (2 : Int32))] [(.ref r0), (.int (2 : Int32))])) rfl rfl (hb hby d3_11)
  refine own_by (B := T11.setTop (mkF m 14 #[.val (.ref r0), .val (.ref b2), .val (.int (2 : Int32))] [(.int (3 : Int32)), (.int (2 : Int32))])) st11 ?_
  refine own_by (B := T11.setTop (mkF m 17 #[.val (.ref r0), .val (.ref b2), .val (.int (2 : Int32))] [])) (fun t k => XS.icmpNo X11.here hx rfl (hb hby d3_14) rfl (tlt (by decide)).2.1 k) ?_
  refine own_by (B := T11.setTop (mkF m 18 #[.val (.ref r0), .val (.ref b2), .val (.int (2 : Int32))] [(.ref b2)])) (fun t k => XS.aloadN X11.here hx rfl (hb hby d3_17) rfl rfl k) ?_
  refine own_by (B := T11.setTop (mkF m 19 #[.val (.ref r0), .val (.ref b2), .val (.int (2 : Int32))] [(.int (2 : Int32)), (.ref b2)])) (fun t k => XS.iloadN X11.here hx rfl (hb hby d3_18) rfl k) ?_
  refine own_by (B := T11.setTop (mkF m 20 #[.val (.ref r0), .val (.ref b2), .val (.int (2 : Int32))] [(.ref r0), (.int (2 : Int32)), (.ref b2)])) (fun t k => XS.aloadN X11.here hx rfl (hb hby d3_19) rfl rfl k) ?_
  obtain ⟨T12, X12, e12, st12⟩ := getF X11 hx hZ hown (host := "") (Or.inl (hw _ (List.mem_of_getElem? (i := 10) rfl))) Via.refl e11 F_entries_r0 (g := (mkF m 20 #[.val (.ref r0), .val (.ref b2), .val (.int (2 : Int32))] [(.ref r0), (.int (2 : Int32)), (.ref b2)])) rfl rfl (hb hby d3_20)
  refine own_by (B := T12.setTop (mkF m 23 #[.val (.ref r0), .val (.ref b2), .val (.int (2 : Int32))] [(.ref b), (.int (2 : Int32)), (.ref b2)])) st12 ?_
  refine own_by (B := T12.setTop (mkF m 24 #[.val (.ref r0), .val (.ref b2), .val (.int (2 : Int32))] [(.int (2 : Int32)), (.ref b), (.int (2 : Int32)), (.ref b2)])) (fun t k => XS.iconst X12.here hx rfl (hb hby d3_23) k) ?_
  refine own_by (B := T12.setTop (mkF m 25 #[.val (.ref r0), .val (.ref b2), .val (.int (2 : Int32))] [(.int (2 : Int32)), (.int (2 : Int32)), (.ref b), (.int (2 : Int32)), (.ref b2)])) (fun t k => XS.iloadN X12.here hx rfl (hb hby d3_24) rfl k) ?_
  refine own_by (B := T12.setTop (mkF m 26 #[.val (.ref r0), .val (.ref b2), .val (.int (2 : Int32))] [(.int (4 : Int32)), (.ref b), (.int (2 : Int32)), (.ref b2)])) (fun t k => XS.imul X12.here hx rfl (hb hby d3_25) rfl k) ?_
  obtain ⟨cl13, Ar13, hin13, hat13⟩ := V_b.at (j := (4 : Int32)) (own_in (i := 4) (by omega) (by omega))
  have hat13 := hat13.trans (congrArg some (show _ = (.int x2) from hf2))
  refine own_by (B := T12.setTop (mkF m 27 #[.val (.ref r0), .val (.ref b2), .val (.int (2 : Int32))] [(.int x2), (.int (2 : Int32)), (.ref b2)])) (fun t k => X12.iaload hx (j := (4 : Int32)) (v := (.int x2)) (by rw [e12]; exact Ar13.1) (State.isArrayOf_alike hZ.alike Ar13.2.1) Ar13.2.2 hin13 hat13 (g := (mkF m 26 #[.val (.ref r0), .val (.ref b2), .val (.int (2 : Int32))] [(.int (4 : Int32)), (.ref b), (.int (2 : Int32)), (.ref b2)])) rfl rfl (hb hby d3_26) _ k) ?_
  obtain ⟨cl14, Ar14, hin14, -⟩ := V_b2.at (j := (2 : Int32)) ⟨by decide, by decide⟩
  obtain ⟨T14, h14, X14, e14, W14, st14⟩ := stI X12 hx hZ e12 Ar14 (j := (2 : Int32)) hin14 (g := (mkF m 27 #[.val (.ref r0), .val (.ref b2), .val (.int (2 : Int32))] [(.int x2), (.int (2 : Int32)), (.ref b2)])) rfl rfl (hb hby d3_27)
  have F_size_r0 := F_size_r0.other W14 (Or.inl ne_r0_b2)
  have F_entries_r0 := F_entries_r0.other W14 (Or.inl ne_r0_b2)
  have V_b := V_b.other W14 ne_b_b2
  have V_b2 := V_b2.set W14
  have Zs : n0 ≤ h14.size := by rw [W14.size]; exact Zs
  have Kp := Kp.wr W14 (Or.inr sz_b2)
  have Nf := Fr.snoc X14 Nf g_b2
  refine own_by (B := T14.setTop (mkF m 28 #[.val (.ref r0), .val (.ref b2), .val (.int (2 : Int32))] [])) st14 ?_
  refine own_by (B := T14.setTop (mkF m 31 #[.val (.ref r0), .val (.ref b2), .val (.int (3 : Int32))] [])) (fun t k => XS.iinc X14.here hx rfl (hb hby d3_28) rfl (l' := #[.val (.ref r0), .val (.ref b2), .val (.int (3 : Int32))]) rfl k) ?_
  refine own_by (B := T14.setTop (mkF m 9 #[.val (.ref r0), .val (.ref b2), .val (.int (3 : Int32))] [])) (fun t k => XS.goto X14.here hx rfl (pc0 := 31) (pc' := 9) rfl (hb hby d3_31) (by decide) (by decide) k) ?_
  refine own_by (B := T14.setTop (mkF m 10 #[.val (.ref r0), .val (.ref b2), .val (.int (3 : Int32))] [(.int (3 : Int32))])) (fun t k => XS.iloadN X14.here hx rfl (hb hby d3_9) rfl k) ?_
  refine own_by (B := T14.setTop (mkF m 11 #[.val (.ref r0), .val (.ref b2), .val (.int (3 : Int32))] [(.ref r0), (.int (3 : Int32))])) (fun t k => XS.aloadN X14.here hx rfl (hb hby d3_10) rfl rfl k) ?_
  obtain ⟨T15, X15, e15, st15⟩ := getF X14 hx hZ hown (host := "") (Or.inl (hw _ (List.mem_of_getElem? (i := 17) rfl))) Via.refl e14 F_size_r0 (g := (mkF m 11 #[.val (.ref r0), .val (.ref b2), .val (.int (3 : Int32))] [(.ref r0), (.int (3 : Int32))])) rfl rfl (hb hby d3_11)
  refine own_by (B := T15.setTop (mkF m 14 #[.val (.ref r0), .val (.ref b2), .val (.int (3 : Int32))] [(.int (3 : Int32)), (.int (3 : Int32))])) st15 ?_
  refine own_by (B := T15.setTop (mkF m 34 #[.val (.ref r0), .val (.ref b2), .val (.int (3 : Int32))] [])) (fun t k => XS.icmpYes X15.here hx rfl (pc0 := 14) (pc' := 34) rfl (hb hby d3_14) rfl (flt (by decide)).2.1 (by decide) (by decide) k) ?_
  refine own_by (B := T15.setTop (mkF m 35 #[.val (.ref r0), .val (.ref b2), .val (.int (3 : Int32))] [(.ref b2)])) (fun t k => XS.aloadN X15.here hx rfl (hb hby d3_34) rfl rfl k) ?_
  exact own_end X15 (v := some (.ref b2)) (fun h => by rw [Bd.returns] at h; cases h) (BodyLoose.notSynchronized Bd) (Q := (Q_rmF3 Z r0 b mz f x0 x1 x2 h0 n0)) (fun fs hr => retOut X15 hx (t := (.array .int)) Bd.returns rfl (Or.inr (Or.inr (Or.inr (Or.inr ⟨rfl, rfl, rfl⟩)))) (hb hby d3_35) hr) (show (Q_rmF3 Z r0 b mz f x0 x1 x2 h0 n0) _ T15.heap _ from (by rw [e15]; exact ⟨by rw [gq2], Nf, Kp, _, by rw [← gq2]; exact V_b2, rfl, rfl, rfl⟩)) (by decide) (by decide)
theorem ef_rmF4 (m : MethodId) (x0 : Addr) : entryFrame m #[(.ref x0)] 3 = mkF m 0 #[.val (.ref x0), .unset, .unset] [] := by first | (simp [entryFrame, mkF, argsToLocals, Value.category]; done) | rfl
def Q_rmF4 (Z : State) (r0 : Addr) (b : Addr) (mz : Nat) (f : Nat → Value) (x0 : Int32) (x1 : Int32) (x2 : Int32) (x3 : Int32) (h0 : Heap) (n0 : Nat) (v : Option Value) (h : Heap) (L : List Loc) : Prop := v = some (.ref h0.size) ∧ Fr n0 L ∧ Keep h0 h [] ∧ ∃ g, own_Arf Z h h0.size .int (4 : Int32) g ∧ g 0 = .int x0 ∧ g 1 = .int x1 ∧ g 2 = .int x2 ∧ g 3 = .int x3
set_option maxRecDepth 65536 in
set_option maxHeartbeats 40000000 in
theorem rmF4 (l : Launch) (Z : State) (a0 : Array Value) (hw : ∀ d ∈ tables_1, d.before a0 Z = true) (ws : List Jvm.Cond) (r0 : Addr) (b : Addr) (mz : Nat) (f : Nat → Value) (x0 : Int32) (x1 : Int32) (x2 : Int32) (x3 : Int32) (h0 : Heap) (n0 : Nat) (Z0 : n0 ≤ h0.size) (F_size_r0 : Fld Z h0 r0 "com/example/surrogate/surrogate/index/Entries" "size" "I" (.int (4 : Int32))) (F_entries_r0 : Fld Z h0 r0 "com/example/surrogate/surrogate/index/Entries" "entries" "[I" (.ref b)) (V_b : own_Arf Z h0 b .int (Int32.ofNat mz) f) (ne_r0_b : r0 ≠ b) (hm : 8 ≤ mz) (hm12 : mz ≤ 12) (hf0 : f 0 = .int x0) (hf1 : f 2 = .int x1) (hf2 : f 4 = .int x2) (hf3 : f 6 = .int x3) :
    MetFree l (⟨"com/example/surrogate/surrogate/index/Entries", "numbers", "()[I"⟩ : MethodName) (head1 (Jvm.Cond.code (⟨"com/example/surrogate/surrogate/index/Entries", "numbers", "()[I"⟩ : MethodName) prog_20_method_7_code 3 (some (.array .int)) :: ws) ({ frames := 0, cells := 1, slots := 4, locals := 0 } : Room)) (fun a U => a = #[(.ref r0)] ∧ Z.Warmed39 U.vm ∧ U.heap = h0) (fun _ _ _ _ _ => True) (fun _ U o U' => ∃ v L, o = .returned v ∧ Q_rmF4 Z r0 b mz f x0 x1 x2 x3 h0 n0 v U'.heap L ∧ FrameEnd U o U' L ({ frames := 0, cells := 1, slots := 4, locals := 0 } : Room).cells ({ frames := 0, cells := 1, slots := 4, locals := 0 } : Room).slots) := by
  refine MetFree.of_bodySF (plainFor_of_name own_pn1) hisR ?_
  intro p e s m args below meth c s₁ Bd hml0 hP hK
  obtain ⟨rfl, hZ, hh⟩ := hP
  have hx := Bd.exec
  have hby := Bd.bytes
  have hml : c.maxLocals = 3 := hml0
  have hown : s.vm.findClass "com/example/surrogate/surrogate/index/Entries" = some m.cls := findClass_of_methodNamed Bd.named
  have hnm := (name_of_methodNamed Bd.named Bd.method).1
  have X0 : Stand p l e ({ frames := 0, cells := 1, slots := 4, locals := 0 } : Room) s m #[(.ref r0)] below meth c s₁ [] 0 0 := Stand.of_body Bd
  have e0 : s₁.heap = h0 := by rw [← hh, Bd.state]; rfl
  show own_Go p e below (s₁.setTop (entryFrame m #[(.ref r0)] 3)) (fun t o => ∃ v L, o = .returned v ∧ Q_rmF4 Z r0 b mz f x0 x1 x2 x3 h0 n0 v t.heap L ∧ FrameEnd s o t L ({ frames := 0, cells := 1, slots := 4, locals := 0 } : Room).cells ({ frames := 0, cells := 1, slots := 4, locals := 0 } : Room).slots)
  refine own_by (B := s₁.setTop (mkF m 0 #[.val (.ref r0), .unset, .unset] [])) (fun t k => castTop (ef_rmF4 m r0) k) ?_
  have Nf := Fr.nil n0
  have Zs := Z0
  have Kp := Keep.refl h0 []
  refine own_by (B := s₁.setTop (mkF m 1 #[.val (.ref r0), .unset, .unset] [(.ref r0)])) (fun t k => XS.aloadN X0.here hx rfl (hb hby d3_0) rfl rfl k) ?_
  obtain ⟨T1, X1, e1, st1⟩ := getF X0 hx hZ hown (host := "") (Or.inl (hw _ (List.mem_of_getElem? (i := 17) rfl))) Via.refl e0 F_size_r0 (g := (mkF m 1 #[.val (.ref r0), .unset, .unset] [(.ref r0)])) rfl rfl (hb hby d3_1)
  refine own_by (B := T1.setTop (mkF m 4 #[.val (.ref r0), .unset, .unset] [(.int (4 : Int32))])) st1 ?_
  obtain ⟨T2, h2, k2, X2, e2, E2, A2, st2⟩ := newP X1 hx hZ (hw _ (List.mem_of_getElem? (i := 9) rfl)) e1 (g := (mkF m 4 #[.val (.ref r0), .unset, .unset] [(.int (4 : Int32))])) rfl (hb hby d3_4) rfl (by decide) (cap := 4) (by decide) (by decide) (by decide) (by decide)
  obtain ⟨b2, gq2⟩ : ∃ z, z = h0.size := ⟨_, rfl⟩
  rw [← gq2] at A2 st2
  have ne_r0_b2 : r0 ≠ b2 := Nat.ne_of_lt (Nat.lt_of_lt_of_le F_size_r0.lt (Nat.le_of_eq gq2.symm))
  have ne_b_b2 : b ≠ b2 := Nat.ne_of_lt (Nat.lt_of_lt_of_le V_b.lt (Nat.le_of_eq gq2.symm))
  have g_b2 : n0 ≤ b2 := Nat.le_trans Zs (Nat.le_of_eq gq2.symm)
  have sz_b2 : h0.size ≤ b2 := Nat.le_trans Kp.1 (Nat.le_of_eq gq2.symm)
  have F_size_r0 := F_size_r0.ext E2
  have F_entries_r0 := F_entries_r0.ext E2
  have V_b := V_b.ext E2
  have Zs := Nat.le_trans Zs E2.1
  have Kp := Kp.ext E2
  have V_b2 := own_Arf.new A2 (by decide)
  refine own_by (B := T2.setTop (mkF m 6 #[.val (.ref r0), .unset, .unset] [(.ref b2)])) st2 ?_
  refine own_by (B := T2.setTop (mkF m 7 #[.val (.ref r0), .val (.ref b2), .unset] [])) (fun t k => XS.astoreN X2.here hx rfl (hb hby d3_6) rfl rfl (l' := #[.val (.ref r0), .val (.ref b2), .unset]) rfl k) ?_
  refine own_by (B := T2.setTop (mkF m 8 #[.val (.ref r0), .val (.ref b2), .unset] [(.int (0 : Int32))])) (fun t k => XS.iconst X2.here hx rfl (hb hby d3_7) k) ?_
  refine own_by (B := T2.setTop (mkF m 9 #[.val (.ref r0), .val (.ref b2), .val (.int (0 : Int32))] [])) (fun t k => XS.istoreN X2.here hx rfl (hb hby d3_8) rfl (l' := #[.val (.ref r0), .val (.ref b2), .val (.int (0 : Int32))]) rfl k) ?_
  refine own_by (B := T2.setTop (mkF m 10 #[.val (.ref r0), .val (.ref b2), .val (.int (0 : Int32))] [(.int (0 : Int32))])) (fun t k => XS.iloadN X2.here hx rfl (hb hby d3_9) rfl k) ?_
  refine own_by (B := T2.setTop (mkF m 11 #[.val (.ref r0), .val (.ref b2), .val (.int (0 : Int32))] [(.ref r0), (.int (0 : Int32))])) (fun t k => XS.aloadN X2.here hx rfl (hb hby d3_10) rfl rfl k) ?_
  obtain ⟨T3, X3, e3, st3⟩ := getF X2 hx hZ hown (host := "") (Or.inl (hw _ (List.mem_of_getElem? (i := 17) rfl))) Via.refl e2 F_size_r0 (g := (mkF m 11 #[.val (.ref r0), .val (.ref b2), .val (.int (0 : Int32))] [(.ref r0), (.int (0 : Int32))])) rfl rfl (hb hby d3_11)
  refine own_by (B := T3.setTop (mkF m 14 #[.val (.ref r0), .val (.ref b2), .val (.int (0 : Int32))] [(.int (4 : Int32)), (.int (0 : Int32))])) st3 ?_
  refine own_by (B := T3.setTop (mkF m 17 #[.val (.ref r0), .val (.ref b2), .val (.int (0 : Int32))] [])) (fun t k => XS.icmpNo X3.here hx rfl (hb hby d3_14) rfl (tlt (by decide)).2.1 k) ?_
  refine own_by (B := T3.setTop (mkF m 18 #[.val (.ref r0), .val (.ref b2), .val (.int (0 : Int32))] [(.ref b2)])) (fun t k => XS.aloadN X3.here hx rfl (hb hby d3_17) rfl rfl k) ?_
  refine own_by (B := T3.setTop (mkF m 19 #[.val (.ref r0), .val (.ref b2), .val (.int (0 : Int32))] [(.int (0 : Int32)), (.ref b2)])) (fun t k => XS.iloadN X3.here hx rfl (hb hby d3_18) rfl k) ?_
  refine own_by (B := T3.setTop (mkF m 20 #[.val (.ref r0), .val (.ref b2), .val (.int (0 : Int32))] [(.ref r0), (.int (0 : Int32)), (.ref b2)])) (fun t k => XS.aloadN X3.here hx rfl (hb hby d3_19) rfl rfl k) ?_
  obtain ⟨T4, X4, e4, st4⟩ := getF X3 hx hZ hown (host := "") (Or.inl (hw _ (List.mem_of_getElem? (i := 10) rfl))) Via.refl e3 F_entries_r0 (g := (mkF m 20 #[.val (.ref r0), .val (.ref b2), .val (.int (0 : Int32))] [(.ref r0), (.int (0 : Int32)), (.ref b2)])) rfl rfl (hb hby d3_20)
  refine own_by (B := T4.setTop (mkF m 23 #[.val (.ref r0), .val (.ref b2), .val (.int (0 : Int32))] [(.ref b), (.int (0 : Int32)), (.ref b2)])) st4 ?_
  refine own_by (B := T4.setTop (mkF m 24 #[.val (.ref r0), .val (.ref b2), .val (.int (0 : Int32))] [(.int (2 : Int32)), (.ref b), (.int (0 : Int32)), (.ref b2)])) (fun t k => XS.iconst X4.here hx rfl (hb hby d3_23) k) ?_
  refine own_by (B := T4.setTop (mkF m 25 #[.val (.ref r0), .val (.ref b2), .val (.int (0 : Int32))] [(.int (0 : Int32)), (.int (2 : Int32)), (.ref b), (.int (0 : Int32)), (.ref b2)])) (fun t k => XS.iloadN X4.here hx rfl (hb hby d3_24) rfl k) ?_
  refine own_by (B := T4.setTop (mkF m 26 #[.val (.ref r0), .val (.ref b2), .val (.int (0 : Int32))] [(.int (0 : Int32)), (.ref b), (.int (0 : Int32)), (.ref b2)])) (fun t k => XS.imul X4.here hx rfl (hb hby d3_25) rfl k) ?_
  obtain ⟨cl5, Ar5, hin5, hat5⟩ := V_b.at (j := (0 : Int32)) (own_in (i := 0) (by omega) (by omega))
  have hat5 := hat5.trans (congrArg some (show _ = (.int x0) from hf0))
  refine own_by (B := T4.setTop (mkF m 27 #[.val (.ref r0), .val (.ref b2), .val (.int (0 : Int32))] [(.int x0), (.int (0 : Int32)), (.ref b2)])) (fun t k => X4.iaload hx (j := (0 : Int32)) (v := (.int x0)) (by rw [e4]; exact Ar5.1) (State.isArrayOf_alike hZ.alike Ar5.2.1) Ar5.2.2 hin5 hat5 (g := (mkF m 26 #[.val (.ref r0), .val (.ref b2), .val (.int (0 : Int32))] [(.int (0 : Int32)), (.ref b), (.int (0 : Int32)), (.ref b2)])) rfl rfl (hb hby d3_26) _ k) ?_
  obtain ⟨cl6, Ar6, hin6, -⟩ := V_b2.at (j := (0 : Int32)) ⟨by decide, by decide⟩
  obtain ⟨T6, h6, X6, e6, W6, st6⟩ := stI X4 hx hZ e4 Ar6 (j := (0 : Int32)) hin6 (g := (mkF m 27 #[.val (.ref r0), .val (.ref b2), .val (.int (0 : Int32))] [(.int x0), (.int (0 : Int32)), (.ref b2)])) rfl rfl (hb hby d3_27)
  have F_size_r0 := F_size_r0.other W6 (Or.inl ne_r0_b2)
  have F_entries_r0 := F_entries_r0.other W6 (Or.inl ne_r0_b2)
  have V_b := V_b.other W6 ne_b_b2
  have V_b2 := V_b2.set W6
  have Zs : n0 ≤ h6.size := by rw [W6.size]; exact Zs
  have Kp := Kp.wr W6 (Or.inr sz_b2)
  have Nf := Fr.snoc X6 Nf g_b2
  refine own_by (B := T6.setTop (mkF m 28 #[.val (.ref r0), .val (.ref b2), .val (.int (0 : Int32))] [])) st6 ?_
  refine own_by (B := T6.setTop (mkF m 31 #[.val (.ref r0), .val (.ref b2), .val (.int (1 : Int32))] [])) (fun t k => XS.iinc X6.here hx rfl (hb hby d3_28) rfl (l' := #[.val (.ref r0), .val (.ref b2), .val (.int (1 : Int32))]) rfl k) ?_
  refine own_by (B := T6.setTop (mkF m 9 #[.val (.ref r0), .val (.ref b2), .val (.int (1 : Int32))] [])) (fun t k => XS.goto X6.here hx rfl (pc0 := 31) (pc' := 9) rfl (hb hby d3_31) (by decide) (by decide) k) ?_
  refine own_by (B := T6.setTop (mkF m 10 #[.val (.ref r0), .val (.ref b2), .val (.int (1 : Int32))] [(.int (1 : Int32))])) (fun t k => XS.iloadN X6.here hx rfl (hb hby d3_9) rfl k) ?_
  refine own_by (B := T6.setTop (mkF m 11 #[.val (.ref r0), .val (.ref b2), .val (.int (1 : Int32))] [(.ref r0), (.int (1 : Int32))])) (fun t k => XS.aloadN X6.here hx rfl (hb hby d3_10) rfl rfl k) ?_
  obtain ⟨T7, X7, e7, st7⟩ := getF X6 hx hZ hown (host := "") (Or.inl (hw _ (List.mem_of_getElem? (i := 17) rfl))) Via.refl e6 F_size_r0 (g := (mkF m 11 #[.val (.ref r0), .val (.ref b2), .val (.int (1 : Int32))] [(.ref r0), (.int (1 : Int32))])) rfl rfl (hb hby d3_11)
  refine own_by (B := T7.setTop (mkF m 14 #[.val (.ref r0), .val (.ref b2), .val (.int (1 : Int32))] [(.int (4 : Int32)), (.int (1 : Int32))])) st7 ?_
  refine own_by (B := T7.setTop (mkF m 17 #[.val (.ref r0), .val (.ref b2), .val (.int (1 : Int32))] [])) (fun t k => XS.icmpNo X7.here hx rfl (hb hby d3_14) rfl (tlt (by decide)).2.1 k) ?_
  refine own_by (B := T7.setTop (mkF m 18 #[.val (.ref r0), .val (.ref b2), .val (.int (1 : Int32))] [(.ref b2)])) (fun t k => XS.aloadN X7.here hx rfl (hb hby d3_17) rfl rfl k) ?_
  refine own_by (B := T7.setTop (mkF m 19 #[.val (.ref r0), .val (.ref b2), .val (.int (1 : Int32))] [(.int (1 : Int32)), (.ref b2)])) (fun t k => XS.iloadN X7.here hx rfl (hb hby d3_18) rfl k) ?_
  refine own_by (B := T7.setTop (mkF m 20 #[.val (.ref r0), .val (.ref b2), .val (.int (1 : Int32))] [(.ref r0), (.int (1 : Int32)), (.ref b2)])) (fun t k => XS.aloadN X7.here hx rfl (hb hby d3_19) rfl rfl k) ?_
  obtain ⟨T8, X8, e8, st8⟩ := getF X7 hx hZ hown (host := "") (Or.inl (hw _ (List.mem_of_getElem? (i := 10) rfl))) Via.refl e7 F_entries_r0 (g := (mkF m 20 #[.val (.ref r0), .val (.ref b2), .val (.int (1 : Int32))] [(.ref r0), (.int (1 : Int32)), (.ref b2)])) rfl rfl (hb hby d3_20)
  refine own_by (B := T8.setTop (mkF m 23 #[.val (.ref r0), .val (.ref b2), .val (.int (1 : Int32))] [(.ref b), (.int (1 : Int32)), (.ref b2)])) st8 ?_
  refine own_by (B := T8.setTop (mkF m 24 #[.val (.ref r0), .val (.ref b2), .val (.int (1 : Int32))] [(.int (2 : Int32)), (.ref b), (.int (1 : Int32)), (.ref b2)])) (fun t k => XS.iconst X8.here hx rfl (hb hby d3_23) k) ?_
  refine own_by (B := T8.setTop (mkF m 25 #[.val (.ref r0), .val (.ref b2), .val (.int (1 : Int32))] [(.int (1 : Int32)), (.int (2 : Int32)), (.ref b), (.int (1 : Int32)), (.ref b2)])) (fun t k => XS.iloadN X8.here hx rfl (hb hby d3_24) rfl k) ?_
  refine own_by (B := T8.setTop (mkF m 26 #[.val (.ref r0), .val (.ref b2), .val (.int (1 : Int32))] [(.int (2 : Int32)), (.ref b), (.int (1 : Int32)), (.ref b2)])) (fun t k => XS.imul X8.here hx rfl (hb hby d3_25) rfl k) ?_
  obtain ⟨cl9, Ar9, hin9, hat9⟩ := V_b.at (j := (2 : Int32)) (own_in (i := 2) (by omega) (by omega))
  have hat9 := hat9.trans (congrArg some (show _ = (.int x1) from hf1))
  refine own_by (B := T8.setTop (mkF m 27 #[.val (.ref r0), .val (.ref b2), .val (.int (1 : Int32))] [(.int x1), (.int (1 : Int32)), (.ref b2)])) (fun t k => X8.iaload hx (j := (2 : Int32)) (v := (.int x1)) (by rw [e8]; exact Ar9.1) (State.isArrayOf_alike hZ.alike Ar9.2.1) Ar9.2.2 hin9 hat9 (g := (mkF m 26 #[.val (.ref r0), .val (.ref b2), .val (.int (1 : Int32))] [(.int (2 : Int32)), (.ref b), (.int (1 : Int32)), (.ref b2)])) rfl rfl (hb hby d3_26) _ k) ?_
  obtain ⟨cl10, Ar10, hin10, -⟩ := V_b2.at (j := (1 : Int32)) ⟨by decide, by decide⟩
  obtain ⟨T10, h10, X10, e10, W10, st10⟩ := stI X8 hx hZ e8 Ar10 (j := (1 : Int32)) hin10 (g := (mkF m 27 #[.val (.ref r0), .val (.ref b2), .val (.int (1 : Int32))] [(.int x1), (.int (1 : Int32)), (.ref b2)])) rfl rfl (hb hby d3_27)
  have F_size_r0 := F_size_r0.other W10 (Or.inl ne_r0_b2)
  have F_entries_r0 := F_entries_r0.other W10 (Or.inl ne_r0_b2)
  have V_b := V_b.other W10 ne_b_b2
  have V_b2 := V_b2.set W10
  have Zs : n0 ≤ h10.size := by rw [W10.size]; exact Zs
  have Kp := Kp.wr W10 (Or.inr sz_b2)
  have Nf := Fr.snoc X10 Nf g_b2
  refine own_by (B := T10.setTop (mkF m 28 #[.val (.ref r0), .val (.ref b2), .val (.int (1 : Int32))] [])) st10 ?_
  refine own_by (B := T10.setTop (mkF m 31 #[.val (.ref r0), .val (.ref b2), .val (.int (2 : Int32))] [])) (fun t k => XS.iinc X10.here hx rfl (hb hby d3_28) rfl (l' := #[.val (.ref r0), .val (.ref b2), .val (.int (2 : Int32))]) rfl k) ?_
  refine own_by (B := T10.setTop (mkF m 9 #[.val (.ref r0), .val (.ref b2), .val (.int (2 : Int32))] [])) (fun t k => XS.goto X10.here hx rfl (pc0 := 31) (pc' := 9) rfl (hb hby d3_31) (by decide) (by decide) k) ?_
  refine own_by (B := T10.setTop (mkF m 10 #[.val (.ref r0), .val (.ref b2), .val (.int (2 : Int32))] [(.int (2 : Int32))])) (fun t k => XS.iloadN X10.here hx rfl (hb hby d3_9) rfl k) ?_
  refine own_by (B := T10.setTop (mkF m 11 #[.val (.ref r0), .val (.ref b2), .val (.int (2 : Int32))] [(.ref r0), (.int (2 : Int32))])) (fun t k => XS.aloadN X10.here hx rfl (hb hby d3_10) rfl rfl k) ?_
  obtain ⟨T11, X11, e11, st11⟩ := getF X10 hx hZ hown (host := "") (Or.inl (hw _ (List.mem_of_getElem? (i := 17) rfl))) Via.refl e10 F_size_r0 (g := (mkF m 11 #[.val (.ref r0), .val (.ref b2), .val (.int (2 : Int32))] [(.ref r0), (.int (2 : Int32))])) rfl rfl (hb hby d3_11)
  refine own_by (B := T11.setTop (mkF m 14 #[.val (.ref r0), .val (.ref b2), .val (.int (2 : Int32))] [(.int (4 : Int32)), (.int (2 : Int32))])) st11 ?_
  refine own_by (B := T11.setTop (mkF m 17 #[.val (.ref r0), .val (.ref b2), .val (.int (2 : Int32))] [])) (fun t k => XS.icmpNo X11.here hx rfl (hb hby d3_14) rfl (tlt (by decide)).2.1 k) ?_
  refine own_by (B := T11.setTop (mkF m 18 #[.val (.ref r0), .val (.ref b2), .val (.int (2 : Int32))] [(.ref b2)])) (fun t k => XS.aloadN X11.here hx rfl (hb hby d3_17) rfl rfl k) ?_
  refine own_by (B := T11.setTop (mkF m 19 #[.val (.ref r0), .val (.ref b2), .val (.int (2 : Int32))] [(.int (2 : Int32)), (.ref b2)])) (fun t k => XS.iloadN X11.here hx rfl (hb hby d3_18) rfl k) ?_
  refine own_by (B := T11.setTop (mkF m 20 #[.val (.ref r0), .val (.ref b2), .val (.int (2 : Int32))] [(.ref r0), (.int (2 : Int32)), (.ref b2)])) (fun t k => XS.aloadN X11.here hx rfl (hb hby d3_19) rfl rfl k) ?_
  obtain ⟨T12, X12, e12, st12⟩ := getF X11 hx hZ hown (host := "") (Or.inl (hw _ (List.mem_of_getElem? (i := 10) rfl))) Via.refl e11 F_entries_r0 (g := (mkF m 20 #[.val (.ref r0), .val (.ref b2), .val (.int (2 : Int32))] [(.ref r0), (.int (2 : Int32)), (.ref b2)])) rfl rfl (hb hby d3_20)
  refine own_by (B := T12.setTop (mkF m 23 #[.val (.ref r0), .val (.ref b2), .val (.int (2 : Int32))] [(.ref b), (.int (2 : Int32)), (.ref b2)])) st12 ?_
  refine own_by (B := T12.setTop (mkF m 24 #[.val (.ref r0), .val (.ref b2), .val (.int (2 : Int32))] [(.int (2 : Int32)), (.ref b), (.int (2 : Int32)), (.ref b2)])) (fun t k => XS.iconst X12.here hx rfl (hb hby d3_23) k) ?_
  refine own_by (B := T12.setTop (mkF m 25 #[.val (.ref r0), .val (.ref b2), .val (.int (2 : Int32))] [(.int (2 : Int32)), (.int (2 : Int32)), (.ref b), (.int (2 : Int32)), (.ref b2)])) (fun t k => XS.iloadN X12.here hx rfl (hb hby d3_24) rfl k) ?_
  refine own_by (B := T12.setTop (mkF m 26 #[.val (.ref r0), .val (.ref b2), .val (.int (2 : Int32))] [(.int (4 : Int32)), (.ref b), (.int (2 : Int32)), (.ref b2)])) (fun t k => XS.imul X12.here hx rfl (hb hby d3_25) rfl k) ?_
  obtain ⟨cl13, Ar13, hin13, hat13⟩ := V_b.at (j := (4 : Int32)) (own_in (i := 4) (by omega) (by omega))
  have hat13 := hat13.trans (congrArg some (show _ = (.int x2) from hf2))
  refine own_by (B := T12.setTop (mkF m 27 #[.val (.ref r0), .val (.ref b2), .val (.int (2 : Int32))] [(.int x2), (.int (2 : Int32)), (.ref b2)])) (fun t k => X12.iaload hx (j := (4 : Int32)) (v := (.int x2)) (by rw [e12]; exact Ar13.1) (State.isArrayOf_alike hZ.alike Ar13.2.1) Ar13.2.2 hin13 hat13 (g := (mkF m 26 #[.val (.ref r0), .val (.ref b2), .val (.int (2 : Int32))] [(.int (4 : Int32)), (.ref b), (.int (2 : Int32)), (.ref b2)])) rfl rfl (hb hby d3_26) _ k) ?_
  obtain ⟨cl14, Ar14, hin14, -⟩ := V_b2.at (j := (2 : Int32)) ⟨by decide, by decide⟩
  obtain ⟨T14, h14, X14, e14, W14, st14⟩ := stI X12 hx hZ e12 Ar14 (j := (2 : Int32)) hin14 (g := (mkF m 27 #[.val (.ref r0), .val (.ref b2), .val (.int (2 : Int32))] [(.int x2), (.int (2 : Int32)), (.ref b2)])) rfl rfl (hb hby d3_27)
  have F_size_r0 := F_size_r0.other W14 (Or.inl ne_r0_b2)
  have F_entries_r0 := F_entries_r0.other W14 (Or.inl ne_r0_b2)
  have V_b := V_b.other W14 ne_b_b2
  have V_b2 := V_b2.set W14
  have Zs : n0 ≤ h14.size := by rw [W14.size]; exact Zs
  have Kp := Kp.wr W14 (Or.inr sz_b2)
  have Nf := Fr.snoc X14 Nf g_b2
  refine own_by (B := T14.setTop (mkF m 28 #[.val (.ref r0), .val (.ref b2), .val (.int (2 : Int32))] [])) st14 ?_
  refine own_by (B := T14.setTop (mkF m 31 #[.val (.ref r0), .val (.ref b2), .val (.int (3 : Int32))] [])) (fun t k => XS.iinc X14.here hx rfl (hb hby d3_28) rfl (l' := #[.val (.ref r0), .val (.ref b2), .val (.int (3 : Int32))]) rfl k) ?_
  refine own_by (B := T14.setTop (mkF m 9 #[.val (.ref r0), .val (.ref b2), .val (.int (3 : Int32))] [])) (fun t k => XS.goto X14.here hx rfl (pc0 := 31) (pc' := 9) rfl (hb hby d3_31) (by decide) (by decide) k) ?_
  refine own_by (B := T14.setTop (mkF m 10 #[.val (.ref r0), .val (.ref b2), .val (.int (3 : Int32))] [(.int (3 : Int32))])) (fun t k => XS.iloadN X14.here hx rfl (hb hby d3_9) rfl k) ?_
  refine own_by (B := T14.setTop (mkF m 11 #[.val (.ref r0), .val (.ref b2), .val (.int (3 : Int32))] [(.ref r0), (.int (3 : Int32))])) (fun t k => XS.aloadN X14.here hx rfl (hb hby d3_10) rfl rfl k) ?_
  obtain ⟨T15, X15, e15, st15⟩ := getF X14 hx hZ hown (host := "") (Or.inl (hw _ (List.mem_of_getElem? (i := 17) rfl))) Via.refl e14 F_size_r0 (g := (mkF m 11 #[.val (.ref r0), .val (.ref b2), .val (.int (3 : Int32))] [(.ref r0), (.int (3 : Int32))])) rfl rfl (hb hby d3_11)
  refine own_by (B := T15.setTop (mkF m 14 #[.val (.ref r0), .val (.ref b2), .val (.int (3 : Int32))] [(.int (4 : Int32)), (.int (3 : Int32))])) st15 ?_
  refine own_by (B := T15.setTop (mkF m 17 #[.val (.ref r0), .val (.ref b2), .val (.int (3 : Int32))] [])) (fun t k => XS.icmpNo X15.here hx rfl (hb hby d3_14) rfl (tlt (by decide)).2.1 k) ?_
  refine own_by (B := T15.setTop (mkF m 18 #[.val (.ref r0), .val (.ref b2), .val (.int (3 : Int32))] [(.ref b2)])) (fun t k => XS.aloadN X15.here hx rfl (hb hby d3_17) rfl rfl k) ?_
  refine own_by (B := T15.setTop (mkF m 19 #[.val (.ref r0), .val (.ref b2), .val (.int (3 : Int32))] [(.int (3 : Int32)), (.ref b2)])) (fun t k => XS.iloadN X15.here hx rfl (hb hby d3_18) rfl k) ?_
  refine own_by (B := T15.setTop (mkF m 20 #[.val (.ref r0), .val (.ref b2), .val (.int (3 : Int32))] [(.ref r0), (.int (3 : Int32)), (.ref b2)])) (fun t k => XS.aloadN X15.here hx rfl (hb hby d3_19) rfl rfl k) ?_
  obtain ⟨T16, X16, e16, st16⟩ := getF X15 hx hZ hown (host := "") (Or.inl (hw _ (List.mem_of_getElem? (i := 10) rfl))) Via.refl e15 F_entries_r0 (g := (mkF m 20 #[.val (.ref r0), .val (.ref b2), .val (.int (3 : Int32))] [(.ref r0), (.int (3 : Int32)), (.ref b2)])) rfl rfl (hb hby d3_20)
  refine own_by (B := T16.setTop (mkF m 23 #[.val (.ref r0), .val (.ref b2), .val (.int (3 : Int32))] [(.ref b), (.int (3 : Int32)), (.ref b2)])) st16 ?_
  refine own_by (B := T16.setTop (mkF m 24 #[.val (.ref r0), .val (.ref b2), .val (.int (3 : Int32))] [(.int (2 : Int32)), (.ref b), (.int (3 : Int32)), (.ref b2)])) (fun t k => XS.iconst X16.here hx rfl (hb hby d3_23) k) ?_
  refine own_by (B := T16.setTop (mkF m 25 #[.val (.ref r0), .val (.ref b2), .val (.int (3 : Int32))] [(.int (3 : Int32)), (.int (2 : Int32)), (.ref b), (.int (3 : Int32)), (.ref b2)])) (fun t k => XS.iloadN X16.here hx rfl (hb hby d3_24) rfl k) ?_
  refine own_by (B := T16.setTop (mkF m 26 #[.val (.ref r0), .val (.ref b2), .val (.int (3 : Int32))] [(.int (6 : Int32)), (.ref b), (.int (3 : Int32)), (.ref b2)])) (fun t k => XS.imul X16.here hx rfl (hb hby d3_25) rfl k) ?_
  obtain ⟨cl17, Ar17, hin17, hat17⟩ := V_b.at (j := (6 : Int32)) (own_in (i := 6) (by omega) (by omega))
  have hat17 := hat17.trans (congrArg some (show _ = (.int x3) from hf3))
  refine own_by (B := T16.setTop (mkF m 27 #[.val (.ref r0), .val (.ref b2), .val (.int (3 : Int32))] [(.int x3), (.int (3 : Int32)), (.ref b2)])) (fun t k => X16.iaload hx (j := (6 : Int32)) (v := (.int x3)) (by rw [e16]; exact Ar17.1) (State.isArrayOf_alike hZ.alike Ar17.2.1) Ar17.2.2 hin17 hat17 (g := (mkF m 26 #[.val (.ref r0), .val (.ref b2), .val (.int (3 : Int32))] [(.int (6 : Int32)), (.ref b), (.int (3 : Int32)), (.ref b2)])) rfl rfl (hb hby d3_26) _ k) ?_
  obtain ⟨cl18, Ar18, hin18, -⟩ := V_b2.at (j := (3 : Int32)) ⟨by decide, by decide⟩
  obtain ⟨T18, h18, X18, e18, W18, st18⟩ := stI X16 hx hZ e16 Ar18 (j := (3 : Int32)) hin18 (g := (mkF m 27 #[.val (.ref r0), .val (.ref b2), .val (.int (3 : Int32))] [(.int x3), (.int (3 : Int32)), (.ref b2)])) rfl rfl (hb hby d3_27)
  have F_size_r0 := F_size_r0.other W18 (Or.inl ne_r0_b2)
  have F_entries_r0 := F_entries_r0.other W18 (Or.inl ne_r0_b2)
  have V_b := V_b.other W18 ne_b_b2
  have V_b2 := V_b2.set W18
  have Zs : n0 ≤ h18.size := by rw [W18.size]; exact Zs
  have Kp := Kp.wr W18 (Or.inr sz_b2)
  have Nf := Fr.snoc X18 Nf g_b2
  refine own_by (B := T18.setTop (mkF m 28 #[.val (.ref r0), .val (.ref b2), .val (.int (3 : Int32))] [])) st18 ?_
  refine own_by (B := T18.setTop (mkF m 31 #[.val (.ref r0), .val (.ref b2), .val (.int (4 : Int32))] [])) (fun t k => XS.iinc X18.here hx rfl (hb hby d3_28) rfl (l' := #[.val (.ref r0), .val (.ref b2), .val (.int (4 : Int32))]) rfl k) ?_
  refine own_by (B := T18.setTop (mkF m 9 #[.val (.ref r0), .val (.ref b2), .val (.int (4 : Int32))] [])) (fun t k => XS.goto X18.here hx rfl (pc0 := 31) (pc' := 9) rfl (hb hby d3_31) (by decide) (by decide) k) ?_
  refine own_by (B := T18.setTop (mkF m 10 #[.val (.ref r0), .val (.ref b2), .val (.int (4 : Int32))] [(.int (4 : Int32))])) (fun t k => XS.iloadN X18.here hx rfl (hb hby d3_9) rfl k) ?_
  refine own_by (B := T18.setTop (mkF m 11 #[.val (.ref r0), .val (.ref b2), .val (.int (4 : Int32))] [(.ref r0), (.int (4 : Int32))])) (fun t k => XS.aloadN X18.here hx rfl (hb hby d3_10) rfl rfl k) ?_
  obtain ⟨T19, X19, e19, st19⟩ := getF X18 hx hZ hown (host := "") (Or.inl (hw _ (List.mem_of_getElem? (i := 17) rfl))) Via.refl e18 F_size_r0 (g := (mkF m 11 #[.val (.ref r0), .val (.ref b2), .val (.int (4 : Int32))] [(.ref r0), (.int (4 : Int32))])) rfl rfl (hb hby d3_11)
  refine own_by (B := T19.setTop (mkF m 14 #[.val (.ref r0), .val (.ref b2), .val (.int (4 : Int32))] [(.int (4 : Int32)), (.int (4 : Int32))])) st19 ?_
  refine own_by (B := T19.setTop (mkF m 34 #[.val (.ref r0), .val (.ref b2), .val (.int (4 : Int32))] [])) (fun t k => XS.icmpYes X19.here hx rfl (pc0 := 14) (pc' := 34) rfl (hb hby d3_14) rfl (flt (by decide)).2.1 (by decide) (by decide) k) ?_
  refine own_by (B := T19.setTop (mkF m 35 #[.val (.ref r0), .val (.ref b2), .val (.int (4 : Int32))] [(.ref b2)])) (fun t k => XS.aloadN X19.here hx rfl (hb hby d3_34) rfl rfl k) ?_
  exact own_end X19 (v := some (.ref b2)) (fun h => by rw [Bd.returns] at h; cases h) (BodyLoose.notSynchronized Bd) (Q := (Q_rmF4 Z r0 b mz f x0 x1 x2 x3 h0 n0)) (fun fs hr => retOut X19 hx (t := (.array .int)) Bd.returns rfl (Or.inr (Or.inr (Or.inr (Or.inr ⟨rfl, rfl, rfl⟩)))) (hb hby d3_35) hr) (show (Q_rmF4 Z r0 b mz f x0 x1 x2 x3 h0 n0) _ T19.heap _ from (by rw [e19]; exact ⟨by rw [gq2], Nf, Kp, _, by rw [← gq2]; exact V_b2, rfl, rfl, rfl, rfl⟩)) (by decide) (by decide)
theorem own_pd2 : parseMethodDescriptor "(I)V" = some ⟨[.int], none⟩ := by decide +kernel
theorem own_pd3 : parseMethodDescriptor "()[I" = some ⟨[], some (.array .int)⟩ := by decide +kernel
theorem own_pd4 : parseMethodDescriptor "(II)V" = some ⟨[.int, .int], none⟩ := by decide +kernel
theorem own_pn2 : plainName "com/example/surrogate/surrogate/index/EntriesNumbersPinLaw" = true := by first | (simp [plainName, overriddenIn]; done) | decide +kernel
theorem ef_rm0 (m : MethodId) (x0 : Int32) (x1 : Int32) (x2 : Int32) (x3 : Int32) (x4 : Int32) (x5 : Int32) : entryFrame m #[(.int x0), (.int x1), (.int x2), (.int x3), (.int x4), (.int x5)] maxLocals = mkF m 0 #[.val (.int x0), .val (.int x1), .val (.int x2), .val (.int x3), .val (.int x4), .val (.int x5), .unset, .unset, .unset, .unset, .unset, .unset] [] := by first | (simp [entryFrame, mkF, argsToLocals, Value.category, maxLocals]; done) | rfl
def Q_rm0 (Z : State) (i0 : Int32) (i1 : Int32) (i2 : Int32) (i3 : Int32) (i4 : Int32) (i5 : Int32) (h0 : Heap) (n0 : Nat) (v : Option Value) (h : Heap) (L : List Loc) : Prop := v = some (.int 1) ∧ Fr n0 L
set_option maxRecDepth 65536 in
set_option maxHeartbeats 40000000 in
theorem rm0 (l : Launch) (Z : State) (a0 : Array Value) (hw : ∀ d ∈ tables_1, d.before a0 Z = true) (ws : List Jvm.Cond) (i0 : Int32) (i1 : Int32) (i2 : Int32) (i3 : Int32) (i4 : Int32) (i5 : Int32) (h0 : Heap) (n0 : Nat) (Z0 : n0 ≤ h0.size)  :
    MetFree l x (head1 (Jvm.Cond.code x code maxLocals ret :: ws) room_1) (fun a U => a = #[(.int i0), (.int i1), (.int i2), (.int i3), (.int i4), (.int i5)] ∧ Z.Warmed39 U.vm ∧ U.heap = h0) (fun _ _ _ _ _ => True) (fun _ U o U' => ∃ v L, o = .returned v ∧ Q_rm0 Z i0 i1 i2 i3 i4 i5 h0 n0 v U'.heap L ∧ FrameEnd U o U' L room_1.cells room_1.slots) := by
  refine MetFree.of_bodySF (plainFor_of_name own_pn2) hisR ?_
  intro p e s m args below meth c s₁ Bd hml0 hP hK
  obtain ⟨rfl, hZ, hh⟩ := hP
  have hx := Bd.exec
  have hby := Bd.bytes
  have hml : c.maxLocals = 12 := hml0
  have hown : s.vm.findClass "com/example/surrogate/surrogate/index/EntriesNumbersPinLaw" = some m.cls := findClass_of_methodNamed Bd.named
  have hnm := (name_of_methodNamed Bd.named Bd.method).1
  have X0 : Stand p l e room_1 s m #[(.int i0), (.int i1), (.int i2), (.int i3), (.int i4), (.int i5)] below meth c s₁ [] 0 0 := Stand.of_body Bd
  have e0 : s₁.heap = h0 := by rw [← hh, Bd.state]; rfl
  show own_Go p e below (s₁.setTop (entryFrame m #[(.int i0), (.int i1), (.int i2), (.int i3), (.int i4), (.int i5)] maxLocals)) (fun t o => ∃ v L, o = .returned v ∧ Q_rm0 Z i0 i1 i2 i3 i4 i5 h0 n0 v t.heap L ∧ FrameEnd s o t L room_1.cells room_1.slots)
  refine own_by (B := s₁.setTop (mkF m 0 #[.val (.int i0), .val (.int i1), .val (.int i2), .val (.int i3), .val (.int i4), .val (.int i5), .unset, .unset, .unset, .unset, .unset, .unset] [])) (fun t k => castTop (ef_rm0 m i0 i1 i2 i3 i4 i5) k) ?_
  have Nf := Fr.nil n0
  have Zs := Z0
  refine own_by (B := s₁.setTop (mkF m 1 #[.val (.int i0), .val (.int i1), .val (.int i2), .val (.int i3), .val (.int i4), .val (.int i5), .unset, .unset, .unset, .unset, .unset, .unset] [(.int i0)])) (fun t k => XS.iloadN X0.here hx rfl (hb hby at_0) rfl k) ?_
  refine own_by (B := s₁.setTop (mkF m 2 #[.val (.int i0), .val (.int i1), .val (.int i2), .val (.int i3), .val (.int i4), .val (.int i5), .unset, .unset, .unset, .unset, .unset, .unset] [(.int (3 : Int32)), (.int i0)])) (fun t k => XS.iconst X0.here hx rfl (hb hby at_1) k) ?_
  refine own_by (B := s₁.setTop (mkF m 3 #[.val (.int i0), .val (.int i1), .val (.int i2), .val (.int i3), .val (.int i4), .val (.int i5), .unset, .unset, .unset, .unset, .unset, .unset] [(.int (i0 &&& (3 : Int32)))])) (fun t k => XS.iand X0.here hx rfl (hb hby at_2) rfl k) ?_
  refine own_by (B := s₁.setTop (mkF m 5 #[.val (.int i0), .val (.int i1), .val (.int i2), .val (.int i3), .val (.int i4), .val (.int i5), .val (.int (i0 &&& (3 : Int32))), .unset, .unset, .unset, .unset, .unset] [])) (fun t k => XS.istore X0.here hx rfl (hb hby at_3) rfl (l' := #[.val (.int i0), .val (.int i1), .val (.int i2), .val (.int i3), .val (.int i4), .val (.int i5), .val (.int (i0 &&& (3 : Int32))), .unset, .unset, .unset, .unset, .unset]) rfl k) ?_
  refine own_by (B := s₁.setTop (mkF m 6 #[.val (.int i0), .val (.int i1), .val (.int i2), .val (.int i3), .val (.int i4), .val (.int i5), .val (.int (i0 &&& (3 : Int32))), .unset, .unset, .unset, .unset, .unset] [(.int i0)])) (fun t k => XS.iloadN X0.here hx rfl (hb hby at_5) rfl k) ?_
  refine own_by (B := s₁.setTop (mkF m 7 #[.val (.int i0), .val (.int i1), .val (.int i2), .val (.int i3), .val (.int i4), .val (.int i5), .val (.int (i0 &&& (3 : Int32))), .unset, .unset, .unset, .unset, .unset] [(.int (2 : Int32)), (.int i0)])) (fun t k => XS.iconst X0.here hx rfl (hb hby at_6) k) ?_
  refine own_by (B := s₁.setTop (mkF m 8 #[.val (.int i0), .val (.int i1), .val (.int i2), .val (.int i3), .val (.int i4), .val (.int i5), .val (.int (i0 &&& (3 : Int32))), .unset, .unset, .unset, .unset, .unset] [(.int ((i0.toUInt32 >>> ((2 : Int32) &&& 31).toUInt32).toInt32))])) (fun t k => XS.iushr X0.here hx rfl (hb hby at_7) rfl k) ?_
  refine own_by (B := s₁.setTop (mkF m 9 #[.val (.int i0), .val (.int i1), .val (.int i2), .val (.int i3), .val (.int i4), .val (.int i5), .val (.int (i0 &&& (3 : Int32))), .unset, .unset, .unset, .unset, .unset] [(.int (5 : Int32)), (.int ((i0.toUInt32 >>> ((2 : Int32) &&& 31).toUInt32).toInt32))])) (fun t k => XS.iconst X0.here hx rfl (hb hby at_8) k) ?_
  refine own_by (B := s₁.setTop (mkF m 10 #[.val (.int i0), .val (.int i1), .val (.int i2), .val (.int i3), .val (.int i4), .val (.int i5), .val (.int (i0 &&& (3 : Int32))), .unset, .unset, .unset, .unset, .unset] [(.int (((i0.toUInt32 >>> ((2 : Int32) &&& 31).toUInt32).toInt32) % (5 : Int32)))])) (fun t k => iremM (g := (mkF m 9 #[.val (.int i0), .val (.int i1), .val (.int i2), .val (.int i3), .val (.int i4), .val (.int i5), .val (.int (i0 &&& (3 : Int32))), .unset, .unset, .unset, .unset, .unset] [(.int (5 : Int32)), (.int ((i0.toUInt32 >>> ((2 : Int32) &&& 31).toUInt32).toInt32))])) X0 hx rfl (hb hby at_9) rfl (by decide) k) ?_
  refine own_by (B := s₁.setTop (mkF m 12 #[.val (.int i0), .val (.int i1), .val (.int i2), .val (.int i3), .val (.int i4), .val (.int i5), .val (.int (i0 &&& (3 : Int32))), .val (.int (((i0.toUInt32 >>> ((2 : Int32) &&& 31).toUInt32).toInt32) % (5 : Int32))), .unset, .unset, .unset, .unset] [])) (fun t k => XS.istore X0.here hx rfl (hb hby at_10) rfl (l' := #[.val (.int i0), .val (.int i1), .val (.int i2), .val (.int i3), .val (.int i4), .val (.int i5), .val (.int (i0 &&& (3 : Int32))), .val (.int (((i0.toUInt32 >>> ((2 : Int32) &&& 31).toUInt32).toInt32) % (5 : Int32))), .unset, .unset, .unset, .unset]) rfl k) ?_
  obtain ⟨cap, hcap, hce⟩ := own_cap i0
  rw [show (i0 &&& (3 : Int32)) = (Int32.ofNat cap) from hce]
  rcases own_cnt i0 with hq | hq | hq | hq | hq
  · rw [hq]
    obtain ⟨T1, h1, X1, e1, E1, A1, D1, -, st1⟩ := newO X0 hx hZ hown (hw _ (List.mem_of_getElem? (i := 0) rfl)) (hw _ (List.mem_of_getElem? (i := 1) rfl)) (hw _ (List.mem_of_getElem? (i := 2) rfl)) e0 (g := (mkF m 12 #[.val (.int i0), .val (.int i1), .val (.int i2), .val (.int i3), .val (.int i4), .val (.int i5), .val (.int (Int32.ofNat cap)), .val (.int (0 : Int32)), .unset, .unset, .unset, .unset] [])) rfl (hb hby at_12) (by decide) (by decide)
    obtain ⟨b1, gq1⟩ : ∃ z, z = h0.size := ⟨_, rfl⟩
    rw [← gq1] at A1 D1 st1
    have g_b1 : n0 ≤ b1 := Nat.le_trans Zs (Nat.le_of_eq gq1.symm)
    have Zs := Nat.le_trans Zs E1.1
    have E_b1 := A1
    have F_entries_b1 : Fld Z h1 b1 "com/example/surrogate/surrogate/index/Entries" "entries" "[I" .null := D1 (Or.inl (hw _ (List.mem_of_getElem? (i := 11) rfl))) (ty := (.array .int)) (by decide)
    have F_size_b1 : Fld Z h1 b1 "com/example/surrogate/surrogate/index/Entries" "size" "I" (.int (0 : Int32)) := D1 (Or.inl (hw _ (List.mem_of_getElem? (i := 18) rfl))) (ty := .int) (by decide)
    refine own_by (B := T1.setTop (mkF m 15 #[.val (.int i0), .val (.int i1), .val (.int i2), .val (.int i3), .val (.int i4), .val (.int i5), .val (.int (Int32.ofNat cap)), .val (.int (0 : Int32)), .unset, .unset, .unset, .unset] [(.ref b1)])) st1 ?_
    refine own_by (B := T1.setTop (mkF m 16 #[.val (.int i0), .val (.int i1), .val (.int i2), .val (.int i3), .val (.int i4), .val (.int i5), .val (.int (Int32.ofNat cap)), .val (.int (0 : Int32)), .unset, .unset, .unset, .unset] [(.ref b1), (.ref b1)])) (fun t k => XS.dup X1.here hx rfl (hb hby at_15) rfl rfl k) ?_
    refine own_by (B := T1.setTop (mkF m 18 #[.val (.int i0), .val (.int i1), .val (.int i2), .val (.int i3), .val (.int i4), .val (.int i5), .val (.int (Int32.ofNat cap)), .val (.int (0 : Int32)), .unset, .unset, .unset, .unset] [(.int (Int32.ofNat cap)), (.ref b1), (.ref b1)])) (fun t k => XS.iload X1.here hx rfl (hb hby at_16) rfl k) ?_
    obtain ⟨_, _, ⟨T2, L2, k2, n2⟩, -, X2, ⟨Lc2, hQ2, l2, y2, z2⟩, st2⟩ := X1.specialBack hx (y := (⟨"com/example/surrogate/surrogate/index/Entries", "<init>", "(I)V"⟩ : MethodName)) rfl hown (mvT hZ (hw _ (List.mem_of_getElem? (i := 3) rfl))) (mvT hZ (hw _ (List.mem_of_getElem? (i := 4) rfl))) (mvT hZ (hw _ (List.mem_of_getElem? (i := 5) rfl))) (by decide) (backOf (W := 1) (rmI l Z a0 hw [] b1 cap h1 n0 Zs E_b1 F_size_b1 F_entries_b1 g_b1 hcap) hZ (hw _ (List.mem_of_getElem? (i := 5) rfl)) (hw _ (List.mem_of_getElem? (i := 2) rfl)) (by decide) (by decide)) (g := (mkF m 18 #[.val (.int i0), .val (.int i1), .val (.int i2), .val (.int i3), .val (.int i4), .val (.int i5), .val (.int (Int32.ofNat cap)), .val (.int (0 : Int32)), .unset, .unset, .unset, .unset] [(.int (Int32.ofNat cap)), (.ref b1), (.ref b1)])) rfl (by rw [hml]; rfl) (Steps.refl _) (a := b1) (argsL := [(.int (Int32.ofNat cap))]) (rest := [(.ref b1)]) (lenOf own_pd2 rfl) rfl (by show 2 * 0 + _ ≤ _; exact Nat.le_of_eq rfl) (hb hby at_18) (fun _ _ => ⟨rfl, e1, (by decide : 1 + 1 ≤ _), (by decide : 2 + 6 ≤ _)⟩)
    dsimp only [Pt.U, Pt.locs, Pt.cells, Pt.slots] at X2 l2 y2 z2 st2 hQ2
    subst l2 y2 z2
    obtain ⟨rfl, Nq2, Kc2, Fs2, b2, f2, g_b2, ne_b1_b2, Fe2, Vc2, hz2⟩ := hQ2
    have Nf := Fr.app Nf Nq2
    have E_b1 := E_b1.keep Kc2
    have Zs := Nat.le_trans Zs Kc2.1
    have F_size_b1 := Fs2
    have F_entries_b1 := Fe2
    have V_b2 := Vc2
    have hint2 : ∀ i, i < 2 * cap → ∃ x, f2 i = .int x := fun i _ => ⟨_, hz2 i⟩
    refine own_by (B := T2.setTop (mkF m 21 #[.val (.int i0), .val (.int i1), .val (.int i2), .val (.int i3), .val (.int i4), .val (.int i5), .val (.int (Int32.ofNat cap)), .val (.int (0 : Int32)), .unset, .unset, .unset, .unset] [(.ref b1)])) (fun t k => st2.trans k) ?_
    refine own_by (B := T2.setTop (mkF m 23 #[.val (.int i0), .val (.int i1), .val (.int i2), .val (.int i3), .val (.int i4), .val (.int i5), .val (.int (Int32.ofNat cap)), .val (.int (0 : Int32)), .val (.ref b1), .unset, .unset, .unset] [])) (fun t k => XS.astore X2.here hx rfl (hb hby at_21) rfl rfl (l' := #[.val (.int i0), .val (.int i1), .val (.int i2), .val (.int i3), .val (.int i4), .val (.int i5), .val (.int (Int32.ofNat cap)), .val (.int (0 : Int32)), .val (.ref b1), .unset, .unset, .unset]) rfl k) ?_
    refine own_by (B := T2.setTop (mkF m 25 #[.val (.int i0), .val (.int i1), .val (.int i2), .val (.int i3), .val (.int i4), .val (.int i5), .val (.int (Int32.ofNat cap)), .val (.int (0 : Int32)), .val (.ref b1), .unset, .unset, .unset] [(.int (0 : Int32))])) (fun t k => XS.iload X2.here hx rfl (hb hby at_23) rfl k) ?_
    refine own_by (B := T2.setTop (mkF m 36 #[.val (.int i0), .val (.int i1), .val (.int i2), .val (.int i3), .val (.int i4), .val (.int i5), .val (.int (Int32.ofNat cap)), .val (.int (0 : Int32)), .val (.ref b1), .unset, .unset, .unset] [])) (fun t k => XS.ifYes X2.here hx rfl (pc0 := 25) (pc' := 36) rfl (hb hby at_25) rfl ((if0 _ _).trans (flt (by decide)).2.2.2) (by decide) (by decide) k) ?_
    refine own_by (B := T2.setTop (mkF m 38 #[.val (.int i0), .val (.int i1), .val (.int i2), .val (.int i3), .val (.int i4), .val (.int i5), .val (.int (Int32.ofNat cap)), .val (.int (0 : Int32)), .val (.ref b1), .unset, .unset, .unset] [(.int (0 : Int32))])) (fun t k => XS.iload X2.here hx rfl (hb hby at_36) rfl k) ?_
    refine own_by (B := T2.setTop (mkF m 39 #[.val (.int i0), .val (.int i1), .val (.int i2), .val (.int i3), .val (.int i4), .val (.int i5), .val (.int (Int32.ofNat cap)), .val (.int (0 : Int32)), .val (.ref b1), .unset, .unset, .unset] [(.int (1 : Int32)), (.int (0 : Int32))])) (fun t k => XS.iconst X2.here hx rfl (hb hby at_38) k) ?_
    refine own_by (B := T2.setTop (mkF m 52 #[.val (.int i0), .val (.int i1), .val (.int i2), .val (.int i3), .val (.int i4), .val (.int i5), .val (.int (Int32.ofNat cap)), .val (.int (0 : Int32)), .val (.ref b1), .unset, .unset, .unset] [])) (fun t k => XS.icmpYes X2.here hx rfl (pc0 := 39) (pc' := 52) rfl (hb hby at_39) rfl (flt (by decide)).2.2.2 (by decide) (by decide) k) ?_
    refine own_by (B := T2.setTop (mkF m 54 #[.val (.int i0), .val (.int i1), .val (.int i2), .val (.int i3), .val (.int i4), .val (.int i5), .val (.int (Int32.ofNat cap)), .val (.int (0 : Int32)), .val (.ref b1), .unset, .unset, .unset] [(.int (0 : Int32))])) (fun t k => XS.iload X2.here hx rfl (hb hby at_52) rfl k) ?_
    refine own_by (B := T2.setTop (mkF m 55 #[.val (.int i0), .val (.int i1), .val (.int i2), .val (.int i3), .val (.int i4), .val (.int i5), .val (.int (Int32.ofNat cap)), .val (.int (0 : Int32)), .val (.ref b1), .unset, .unset, .unset] [(.int (2 : Int32)), (.int (0 : Int32))])) (fun t k => XS.iconst X2.here hx rfl (hb hby at_54) k) ?_
    refine own_by (B := T2.setTop (mkF m 68 #[.val (.int i0), .val (.int i1), .val (.int i2), .val (.int i3), .val (.int i4), .val (.int i5), .val (.int (Int32.ofNat cap)), .val (.int (0 : Int32)), .val (.ref b1), .unset, .unset, .unset] [])) (fun t k => XS.icmpYes X2.here hx rfl (pc0 := 55) (pc' := 68) rfl (hb hby at_55) rfl (flt (by decide)).2.2.2 (by decide) (by decide) k) ?_
    refine own_by (B := T2.setTop (mkF m 70 #[.val (.int i0), .val (.int i1), .val (.int i2), .val (.int i3), .val (.int i4), .val (.int i5), .val (.int (Int32.ofNat cap)), .val (.int (0 : Int32)), .val (.ref b1), .unset, .unset, .unset] [(.int (0 : Int32))])) (fun t k => XS.iload X2.here hx rfl (hb hby at_68) rfl k) ?_
    refine own_by (B := T2.setTop (mkF m 71 #[.val (.int i0), .val (.int i1), .val (.int i2), .val (.int i3), .val (.int i4), .val (.int i5), .val (.int (Int32.ofNat cap)), .val (.int (0 : Int32)), .val (.ref b1), .unset, .unset, .unset] [(.int (3 : Int32)), (.int (0 : Int32))])) (fun t k => XS.iconst X2.here hx rfl (hb hby at_70) k) ?_
    refine own_by (B := T2.setTop (mkF m 85 #[.val (.int i0), .val (.int i1), .val (.int i2), .val (.int i3), .val (.int i4), .val (.int i5), .val (.int (Int32.ofNat cap)), .val (.int (0 : Int32)), .val (.ref b1), .unset, .unset, .unset] [])) (fun t k => XS.icmpYes X2.here hx rfl (pc0 := 71) (pc' := 85) rfl (hb hby at_71) rfl (flt (by decide)).2.2.2 (by decide) (by decide) k) ?_
    refine own_by (B := T2.setTop (mkF m 87 #[.val (.int i0), .val (.int i1), .val (.int i2), .val (.int i3), .val (.int i4), .val (.int i5), .val (.int (Int32.ofNat cap)), .val (.int (0 : Int32)), .val (.ref b1), .unset, .unset, .unset] [(.ref b1)])) (fun t k => XS.aload X2.here hx rfl (hb hby at_85) rfl rfl k) ?_
    obtain ⟨cq3, kq3, q3a, q3b, q3c⟩ := isOf hZ rfl E_b1
    obtain ⟨_, _, ⟨T3, L3, k3, n3⟩, -, X3, ⟨Lc3, hQ3, l3, y3, z3⟩, st3⟩ := X2.virtualBack hx (y := (⟨"com/example/surrogate/surrogate/index/Entries", "numbers", "()[I"⟩ : MethodName)) (z := (⟨"com/example/surrogate/surrogate/index/Entries", "numbers", "()[I"⟩ : MethodName)) hown (mvT hZ (hw _ (List.mem_of_getElem? (i := 12) rfl))) (mvT hZ (hw _ (List.mem_of_getElem? (i := 13) rfl))) (notFace_of_selects (args := #[]) (mvT hZ (hw _ (List.mem_of_getElem? (i := 15) rfl)))) (mvT hZ (hw _ (List.mem_of_getElem? (i := 15) rfl))) (mvT hZ (hw _ (List.mem_of_getElem? (i := 14) rfl))) (by decide) (backOf (W := 0) (rmF0 l Z a0 hw [] b1 b2 (2 * cap) f2  T2.heap n0 Zs F_size_b1 F_entries_b1 V_b2 ne_b1_b2 (by omega) (by omega) ) hZ (hw _ (List.mem_of_getElem? (i := 16) rfl)) (hw _ (List.mem_of_getElem? (i := 2) rfl)) (by decide) (by decide)) q3a q3c (g := (mkF m 87 #[.val (.int i0), .val (.int i1), .val (.int i2), .val (.int i3), .val (.int i4), .val (.int i5), .val (.int (Int32.ofNat cap)), .val (.int (0 : Int32)), .val (.ref b1), .unset, .unset, .unset] [(.ref b1)])) rfl (by rw [hml]; rfl) (Steps.refl _) (argsL := []) (rest := []) (lenOf own_pd3 rfl) rfl (by show 2 * 0 + _ ≤ _; exact Nat.le_of_eq rfl) (hb hby at_87) (fun _ _ => ⟨rfl, rfl, (by decide : 2 + 1 ≤ _), (by decide : 8 + 0 ≤ _)⟩)
    dsimp only [Pt.U, Pt.locs, Pt.cells, Pt.slots] at X3 l3 y3 z3 st3 hQ3
    subst l3 y3 z3
    obtain ⟨rfl, Nq3, Kc3, g3, Vc3⟩ := hQ3
    have Nf := Fr.app Nf Nq3
    obtain ⟨b3, gq3⟩ : ∃ z, z = T2.heap.size := ⟨_, rfl⟩
    rw [← gq3] at Vc3 st3
    have ne_b1_b3 : b1 ≠ b3 := Nat.ne_of_lt (Nat.lt_of_lt_of_le E_b1.lt (Nat.le_of_eq gq3.symm))
    have ne_b2_b3 : b2 ≠ b3 := Nat.ne_of_lt (Nat.lt_of_lt_of_le V_b2.lt (Nat.le_of_eq gq3.symm))
    have g_b3 : n0 ≤ b3 := Nat.le_trans Zs (Nat.le_of_eq gq3.symm)
    have E_b1 := E_b1.keep Kc3
    have F_size_b1 := F_size_b1.keep Kc3 nin0
    have F_entries_b1 := F_entries_b1.keep Kc3 nin0
    have V_b2 := V_b2.keep Kc3 nin0
    have Zs := Nat.le_trans Zs Kc3.1
    have V_b3 := Vc3
    refine own_by (B := T3.setTop (mkF m 90 #[.val (.int i0), .val (.int i1), .val (.int i2), .val (.int i3), .val (.int i4), .val (.int i5), .val (.int (Int32.ofNat cap)), .val (.int (0 : Int32)), .val (.ref b1), .unset, .unset, .unset] [(.ref b3)])) (fun t k => st3.trans k) ?_
    refine own_by (B := T3.setTop (mkF m 92 #[.val (.int i0), .val (.int i1), .val (.int i2), .val (.int i3), .val (.int i4), .val (.int i5), .val (.int (Int32.ofNat cap)), .val (.int (0 : Int32)), .val (.ref b1), .val (.ref b3), .unset, .unset] [])) (fun t k => XS.astore X3.here hx rfl (hb hby at_90) rfl rfl (l' := #[.val (.int i0), .val (.int i1), .val (.int i2), .val (.int i3), .val (.int i4), .val (.int i5), .val (.int (Int32.ofNat cap)), .val (.int (0 : Int32)), .val (.ref b1), .val (.ref b3), .unset, .unset]) rfl k) ?_
    refine own_by (B := T3.setTop (mkF m 94 #[.val (.int i0), .val (.int i1), .val (.int i2), .val (.int i3), .val (.int i4), .val (.int i5), .val (.int (Int32.ofNat cap)), .val (.int (0 : Int32)), .val (.ref b1), .val (.ref b3), .unset, .unset] [(.ref b3)])) (fun t k => XS.aload X3.here hx rfl (hb hby at_92) rfl rfl k) ?_
    obtain ⟨cl4, Ar4, Sz4, Ng4, -⟩ := id V_b3
    refine own_by (B := T3.setTop (mkF m 95 #[.val (.int i0), .val (.int i1), .val (.int i2), .val (.int i3), .val (.int i4), .val (.int i5), .val (.int (Int32.ofNat cap)), .val (.int (0 : Int32)), .val (.ref b1), .val (.ref b3), .unset, .unset] [(.int (0 : Int32))])) (fun t k => X3.arraylength hx Ar4.1 (State.isArrayOf_alike hZ.alike Ar4.2.1) (g := (mkF m 94 #[.val (.int i0), .val (.int i1), .val (.int i2), .val (.int i3), .val (.int i4), .val (.int i5), .val (.int (Int32.ofNat cap)), .val (.int (0 : Int32)), .val (.ref b1), .val (.ref b3), .unset, .unset] [(.ref b3)])) rfl rfl (hb hby at_94) _ (by rw [len_of Sz4 Ng4]; exact k)) ?_
    refine own_by (B := T3.setTop (mkF m 97 #[.val (.int i0), .val (.int i1), .val (.int i2), .val (.int i3), .val (.int i4), .val (.int i5), .val (.int (Int32.ofNat cap)), .val (.int (0 : Int32)), .val (.ref b1), .val (.ref b3), .unset, .unset] [(.int (0 : Int32)), (.int (0 : Int32))])) (fun t k => XS.iload X3.here hx rfl (hb hby at_95) rfl k) ?_
    refine own_by (B := T3.setTop (mkF m 102 #[.val (.int i0), .val (.int i1), .val (.int i2), .val (.int i3), .val (.int i4), .val (.int i5), .val (.int (Int32.ofNat cap)), .val (.int (0 : Int32)), .val (.ref b1), .val (.ref b3), .unset, .unset] [])) (fun t k => XS.icmpYes X3.here hx rfl (pc0 := 97) (pc' := 102) rfl (hb hby at_97) rfl (teq (by decide)).1 (by decide) (by decide) k) ?_
    refine own_by (B := T3.setTop (mkF m 103 #[.val (.int i0), .val (.int i1), .val (.int i2), .val (.int i3), .val (.int i4), .val (.int i5), .val (.int (Int32.ofNat cap)), .val (.int (0 : Int32)), .val (.ref b1), .val (.ref b3), .unset, .unset] [(.int (1 : Int32))])) (fun t k => XS.iconst X3.here hx rfl (hb hby at_102) k) ?_
    refine own_by (B := T3.setTop (mkF m 105 #[.val (.int i0), .val (.int i1), .val (.int i2), .val (.int i3), .val (.int i4), .val (.int i5), .val (.int (Int32.ofNat cap)), .val (.int (0 : Int32)), .val (.ref b1), .val (.ref b3), .val (.int (1 : Int32)), .unset] [])) (fun t k => XS.istore X3.here hx rfl (hb hby at_103) rfl (l' := #[.val (.int i0), .val (.int i1), .val (.int i2), .val (.int i3), .val (.int i4), .val (.int i5), .val (.int (Int32.ofNat cap)), .val (.int (0 : Int32)), .val (.ref b1), .val (.ref b3), .val (.int (1 : Int32)), .unset]) rfl k) ?_
    refine own_by (B := T3.setTop (mkF m 107 #[.val (.int i0), .val (.int i1), .val (.int i2), .val (.int i3), .val (.int i4), .val (.int i5), .val (.int (Int32.ofNat cap)), .val (.int (0 : Int32)), .val (.ref b1), .val (.ref b3), .val (.int (1 : Int32)), .unset] [(.int (0 : Int32))])) (fun t k => XS.iload X3.here hx rfl (hb hby at_105) rfl k) ?_
    refine own_by (B := T3.setTop (mkF m 130 #[.val (.int i0), .val (.int i1), .val (.int i2), .val (.int i3), .val (.int i4), .val (.int i5), .val (.int (Int32.ofNat cap)), .val (.int (0 : Int32)), .val (.ref b1), .val (.ref b3), .val (.int (1 : Int32)), .unset] [])) (fun t k => XS.ifYes X3.here hx rfl (pc0 := 107) (pc' := 130) rfl (hb hby at_107) rfl ((if0 _ _).trans (flt (by decide)).2.2.2) (by decide) (by decide) k) ?_
    refine own_by (B := T3.setTop (mkF m 132 #[.val (.int i0), .val (.int i1), .val (.int i2), .val (.int i3), .val (.int i4), .val (.int i5), .val (.int (Int32.ofNat cap)), .val (.int (0 : Int32)), .val (.ref b1), .val (.ref b3), .val (.int (1 : Int32)), .unset] [(.int (0 : Int32))])) (fun t k => XS.iload X3.here hx rfl (hb hby at_130) rfl k) ?_
    refine own_by (B := T3.setTop (mkF m 133 #[.val (.int i0), .val (.int i1), .val (.int i2), .val (.int i3), .val (.int i4), .val (.int i5), .val (.int (Int32.ofNat cap)), .val (.int (0 : Int32)), .val (.ref b1), .val (.ref b3), .val (.int (1 : Int32)), .unset] [(.int (1 : Int32)), (.int (0 : Int32))])) (fun t k => XS.iconst X3.here hx rfl (hb hby at_132) k) ?_
    refine own_by (B := T3.setTop (mkF m 156 #[.val (.int i0), .val (.int i1), .val (.int i2), .val (.int i3), .val (.int i4), .val (.int i5), .val (.int (Int32.ofNat cap)), .val (.int (0 : Int32)), .val (.ref b1), .val (.ref b3), .val (.int (1 : Int32)), .unset] [])) (fun t k => XS.icmpYes X3.here hx rfl (pc0 := 133) (pc' := 156) rfl (hb hby at_133) rfl (flt (by decide)).2.2.2 (by decide) (by decide) k) ?_
    refine own_by (B := T3.setTop (mkF m 158 #[.val (.int i0), .val (.int i1), .val (.int i2), .val (.int i3), .val (.int i4), .val (.int i5), .val (.int (Int32.ofNat cap)), .val (.int (0 : Int32)), .val (.ref b1), .val (.ref b3), .val (.int (1 : Int32)), .unset] [(.int (0 : Int32))])) (fun t k => XS.iload X3.here hx rfl (hb hby at_156) rfl k) ?_
    refine own_by (B := T3.setTop (mkF m 159 #[.val (.int i0), .val (.int i1), .val (.int i2), .val (.int i3), .val (.int i4), .val (.int i5), .val (.int (Int32.ofNat cap)), .val (.int (0 : Int32)), .val (.ref b1), .val (.ref b3), .val (.int (1 : Int32)), .unset] [(.int (2 : Int32)), (.int (0 : Int32))])) (fun t k => XS.iconst X3.here hx rfl (hb hby at_158) k) ?_
    refine own_by (B := T3.setTop (mkF m 182 #[.val (.int i0), .val (.int i1), .val (.int i2), .val (.int i3), .val (.int i4), .val (.int i5), .val (.int (Int32.ofNat cap)), .val (.int (0 : Int32)), .val (.ref b1), .val (.ref b3), .val (.int (1 : Int32)), .unset] [])) (fun t k => XS.icmpYes X3.here hx rfl (pc0 := 159) (pc' := 182) rfl (hb hby at_159) rfl (flt (by decide)).2.2.2 (by decide) (by decide) k) ?_
    refine own_by (B := T3.setTop (mkF m 184 #[.val (.int i0), .val (.int i1), .val (.int i2), .val (.int i3), .val (.int i4), .val (.int i5), .val (.int (Int32.ofNat cap)), .val (.int (0 : Int32)), .val (.ref b1), .val (.ref b3), .val (.int (1 : Int32)), .unset] [(.int (0 : Int32))])) (fun t k => XS.iload X3.here hx rfl (hb hby at_182) rfl k) ?_
    refine own_by (B := T3.setTop (mkF m 185 #[.val (.int i0), .val (.int i1), .val (.int i2), .val (.int i3), .val (.int i4), .val (.int i5), .val (.int (Int32.ofNat cap)), .val (.int (0 : Int32)), .val (.ref b1), .val (.ref b3), .val (.int (1 : Int32)), .unset] [(.int (3 : Int32)), (.int (0 : Int32))])) (fun t k => XS.iconst X3.here hx rfl (hb hby at_184) k) ?_
    refine own_by (B := T3.setTop (mkF m 209 #[.val (.int i0), .val (.int i1), .val (.int i2), .val (.int i3), .val (.int i4), .val (.int i5), .val (.int (Int32.ofNat cap)), .val (.int (0 : Int32)), .val (.ref b1), .val (.ref b3), .val (.int (1 : Int32)), .unset] [])) (fun t k => XS.icmpYes X3.here hx rfl (pc0 := 185) (pc' := 209) rfl (hb hby at_185) rfl (flt (by decide)).2.2.2 (by decide) (by decide) k) ?_
    refine own_by (B := T3.setTop (mkF m 211 #[.val (.int i0), .val (.int i1), .val (.int i2), .val (.int i3), .val (.int i4), .val (.int i5), .val (.int (Int32.ofNat cap)), .val (.int (0 : Int32)), .val (.ref b1), .val (.ref b3), .val (.int (1 : Int32)), .unset] [(.int (0 : Int32))])) (fun t k => XS.iload X3.here hx rfl (hb hby at_209) rfl k) ?_
    refine own_by (B := T3.setTop (mkF m 253 #[.val (.int i0), .val (.int i1), .val (.int i2), .val (.int i3), .val (.int i4), .val (.int i5), .val (.int (Int32.ofNat cap)), .val (.int (0 : Int32)), .val (.ref b1), .val (.ref b3), .val (.int (1 : Int32)), .unset] [])) (fun t k => XS.ifYes X3.here hx rfl (pc0 := 211) (pc' := 253) rfl (hb hby at_211) rfl ((if0 _ _).trans (flt (by decide)).2.2.2) (by decide) (by decide) k) ?_
    refine own_by (B := T3.setTop (mkF m 255 #[.val (.int i0), .val (.int i1), .val (.int i2), .val (.int i3), .val (.int i4), .val (.int i5), .val (.int (Int32.ofNat cap)), .val (.int (0 : Int32)), .val (.ref b1), .val (.ref b3), .val (.int (1 : Int32)), .unset] [(.int (1 : Int32))])) (fun t k => XS.iload X3.here hx rfl (hb hby at_253) rfl k) ?_
    exact own_end X3 (v := some (.int (1 : Int32))) (fun h => by rw [Bd.returns] at h; cases h) (BodyLoose.notSynchronized Bd) (Q := (Q_rm0 Z i0 i1 i2 i3 i4 i5 h0 n0)) (fun fs hr => retN X3 hx (t := .boolean) Bd.returns (by simp) (hb hby at_255) hr) (show (Q_rm0 Z i0 i1 i2 i3 i4 i5 h0 n0) _ T3.heap _ from (⟨rfl, Nf⟩)) (by decide) (by decide)
  · rw [hq]
    obtain ⟨T5, h5, X5, e5, E5, A5, D5, -, st5⟩ := newO X0 hx hZ hown (hw _ (List.mem_of_getElem? (i := 0) rfl)) (hw _ (List.mem_of_getElem? (i := 1) rfl)) (hw _ (List.mem_of_getElem? (i := 2) rfl)) e0 (g := (mkF m 12 #[.val (.int i0), .val (.int i1), .val (.int i2), .val (.int i3), .val (.int i4), .val (.int i5), .val (.int (Int32.ofNat cap)), .val (.int (1 : Int32)), .unset, .unset, .unset, .unset] [])) rfl (hb hby at_12) (by decide) (by decide)
    obtain ⟨b5, gq5⟩ : ∃ z, z = h0.size := ⟨_, rfl⟩
    rw [← gq5] at A5 D5 st5
    have g_b5 : n0 ≤ b5 := Nat.le_trans Zs (Nat.le_of_eq gq5.symm)
    have Zs := Nat.le_trans Zs E5.1
    have E_b5 := A5
    have F_entries_b5 : Fld Z h5 b5 "com/example/surrogate/surrogate/index/Entries" "entries" "[I" .null := D5 (Or.inl (hw _ (List.mem_of_getElem? (i := 11) rfl))) (ty := (.array .int)) (by decide)
    have F_size_b5 : Fld Z h5 b5 "com/example/surrogate/surrogate/index/Entries" "size" "I" (.int (0 : Int32)) := D5 (Or.inl (hw _ (List.mem_of_getElem? (i := 18) rfl))) (ty := .int) (by decide)
    refine own_by (B := T5.setTop (mkF m 15 #[.val (.int i0), .val (.int i1), .val (.int i2), .val (.int i3), .val (.int i4), .val (.int i5), .val (.int (Int32.ofNat cap)), .val (.int (1 : Int32)), .unset, .unset, .unset, .unset] [(.ref b5)])) st5 ?_
    refine own_by (B := T5.setTop (mkF m 16 #[.val (.int i0), .val (.int i1), .val (.int i2), .val (.int i3), .val (.int i4), .val (.int i5), .val (.int (Int32.ofNat cap)), .val (.int (1 : Int32)), .unset, .unset, .unset, .unset] [(.ref b5), (.ref b5)])) (fun t k => XS.dup X5.here hx rfl (hb hby at_15) rfl rfl k) ?_
    refine own_by (B := T5.setTop (mkF m 18 #[.val (.int i0), .val (.int i1), .val (.int i2), .val (.int i3), .val (.int i4), .val (.int i5), .val (.int (Int32.ofNat cap)), .val (.int (1 : Int32)), .unset, .unset, .unset, .unset] [(.int (Int32.ofNat cap)), (.ref b5), (.ref b5)])) (fun t k => XS.iload X5.here hx rfl (hb hby at_16) rfl k) ?_
    obtain ⟨_, _, ⟨T6, L6, k6, n6⟩, -, X6, ⟨Lc6, hQ6, l6, y6, z6⟩, st6⟩ := X5.specialBack hx (y := (⟨"com/example/surrogate/surrogate/index/Entries", "<init>", "(I)V"⟩ : MethodName)) rfl hown (mvT hZ (hw _ (List.mem_of_getElem? (i := 3) rfl))) (mvT hZ (hw _ (List.mem_of_getElem? (i := 4) rfl))) (mvT hZ (hw _ (List.mem_of_getElem? (i := 5) rfl))) (by decide) (backOf (W := 1) (rmI l Z a0 hw [] b5 cap h5 n0 Zs E_b5 F_size_b5 F_entries_b5 g_b5 hcap) hZ (hw _ (List.mem_of_getElem? (i := 5) rfl)) (hw _ (List.mem_of_getElem? (i := 2) rfl)) (by decide) (by decide)) (g := (mkF m 18 #[.val (.int i0), .val (.int i1), .val (.int i2), .val (.int i3), .val (.int i4), .val (.int i5), .val (.int (Int32.ofNat cap)), .val (.int (1 : Int32)), .unset, .unset, .unset, .unset] [(.int (Int32.ofNat cap)), (.ref b5), (.ref b5)])) rfl (by rw [hml]; rfl) (Steps.refl _) (a := b5) (argsL := [(.int (Int32.ofNat cap))]) (rest := [(.ref b5)]) (lenOf own_pd2 rfl) rfl (by show 2 * 0 + _ ≤ _; exact Nat.le_of_eq rfl) (hb hby at_18) (fun _ _ => ⟨rfl, e5, (by decide : 1 + 1 ≤ _), (by decide : 2 + 6 ≤ _)⟩)
    dsimp only [Pt.U, Pt.locs, Pt.cells, Pt.slots] at X6 l6 y6 z6 st6 hQ6
    subst l6 y6 z6
    obtain ⟨rfl, Nq6, Kc6, Fs6, b6, f6, g_b6, ne_b5_b6, Fe6, Vc6, hz6⟩ := hQ6
    have Nf := Fr.app Nf Nq6
    have E_b5 := E_b5.keep Kc6
    have Zs := Nat.le_trans Zs Kc6.1
    have F_size_b5 := Fs6
    have F_entries_b5 := Fe6
    have V_b6 := Vc6
    have hint6 : ∀ i, i < 2 * cap → ∃ x, f6 i = .int x := fun i _ => ⟨_, hz6 i⟩
    refine own_by (B := T6.setTop (mkF m 21 #[.val (.int i0), .val (.int i1), .val (.int i2), .val (.int i3), .val (.int i4), .val (.int i5), .val (.int (Int32.ofNat cap)), .val (.int (1 : Int32)), .unset, .unset, .unset, .unset] [(.ref b5)])) (fun t k => st6.trans k) ?_
    refine own_by (B := T6.setTop (mkF m 23 #[.val (.int i0), .val (.int i1), .val (.int i2), .val (.int i3), .val (.int i4), .val (.int i5), .val (.int (Int32.ofNat cap)), .val (.int (1 : Int32)), .val (.ref b5), .unset, .unset, .unset] [])) (fun t k => XS.astore X6.here hx rfl (hb hby at_21) rfl rfl (l' := #[.val (.int i0), .val (.int i1), .val (.int i2), .val (.int i3), .val (.int i4), .val (.int i5), .val (.int (Int32.ofNat cap)), .val (.int (1 : Int32)), .val (.ref b5), .unset, .unset, .unset]) rfl k) ?_
    refine own_by (B := T6.setTop (mkF m 25 #[.val (.int i0), .val (.int i1), .val (.int i2), .val (.int i3), .val (.int i4), .val (.int i5), .val (.int (Int32.ofNat cap)), .val (.int (1 : Int32)), .val (.ref b5), .unset, .unset, .unset] [(.int (1 : Int32))])) (fun t k => XS.iload X6.here hx rfl (hb hby at_23) rfl k) ?_
    refine own_by (B := T6.setTop (mkF m 28 #[.val (.int i0), .val (.int i1), .val (.int i2), .val (.int i3), .val (.int i4), .val (.int i5), .val (.int (Int32.ofNat cap)), .val (.int (1 : Int32)), .val (.ref b5), .unset, .unset, .unset] [])) (fun t k => XS.ifNo X6.here hx rfl (hb hby at_25) rfl ((if0 _ _).trans (tlt (by decide)).2.2.2) k) ?_
    refine own_by (B := T6.setTop (mkF m 30 #[.val (.int i0), .val (.int i1), .val (.int i2), .val (.int i3), .val (.int i4), .val (.int i5), .val (.int (Int32.ofNat cap)), .val (.int (1 : Int32)), .val (.ref b5), .unset, .unset, .unset] [(.ref b5)])) (fun t k => XS.aload X6.here hx rfl (hb hby at_28) rfl rfl k) ?_
    refine own_by (B := T6.setTop (mkF m 31 #[.val (.int i0), .val (.int i1), .val (.int i2), .val (.int i3), .val (.int i4), .val (.int i5), .val (.int (Int32.ofNat cap)), .val (.int (1 : Int32)), .val (.ref b5), .unset, .unset, .unset] [(.int i1), (.ref b5)])) (fun t k => XS.iloadN X6.here hx rfl (hb hby at_30) rfl k) ?_
    refine own_by (B := T6.setTop (mkF m 33 #[.val (.int i0), .val (.int i1), .val (.int i2), .val (.int i3), .val (.int i4), .val (.int i5), .val (.int (Int32.ofNat cap)), .val (.int (1 : Int32)), .val (.ref b5), .unset, .unset, .unset] [(.int i5), (.int i1), (.ref b5)])) (fun t k => XS.iload X6.here hx rfl (hb hby at_31) rfl k) ?_
    obtain ⟨cq7, kq7, q7a, q7b, q7c⟩ := isOf hZ rfl E_b5
    obtain ⟨_, _, ⟨T7, L7, k7, n7⟩, -, X7, ⟨Lc7, hQ7, l7, y7, z7⟩, st7⟩ := X6.virtualBack hx (y := (⟨"com/example/surrogate/surrogate/index/Entries", "add", "(II)V"⟩ : MethodName)) (z := (⟨"com/example/surrogate/surrogate/index/Entries", "add", "(II)V"⟩ : MethodName)) hown (mvT hZ (hw _ (List.mem_of_getElem? (i := 19) rfl))) (mvT hZ (hw _ (List.mem_of_getElem? (i := 20) rfl))) (notFace_of_selects (args := #[]) (mvT hZ (hw _ (List.mem_of_getElem? (i := 22) rfl)))) (mvT hZ (hw _ (List.mem_of_getElem? (i := 22) rfl))) (mvT hZ (hw _ (List.mem_of_getElem? (i := 21) rfl))) (by decide) (backOf (W := 0) (rmA l Z a0 hw [] b5 i1 i5 b6 0 (2 * cap) f6 T6.heap n0 Zs E_b5 F_size_b5 F_entries_b5 V_b6 hint6 g_b5 g_b6 ne_b5_b6 (by omega) (by omega) (by omega) (by omega)) hZ (hw _ (List.mem_of_getElem? (i := 23) rfl)) (hw _ (List.mem_of_getElem? (i := 2) rfl)) (by decide) (by decide)) q7a q7c (g := (mkF m 33 #[.val (.int i0), .val (.int i1), .val (.int i2), .val (.int i3), .val (.int i4), .val (.int i5), .val (.int (Int32.ofNat cap)), .val (.int (1 : Int32)), .val (.ref b5), .unset, .unset, .unset] [(.int i5), (.int i1), (.ref b5)])) rfl (by rw [hml]; rfl) (Steps.refl _) (argsL := [(.int i1), (.int i5)]) (rest := []) (lenOf own_pd4 rfl) rfl (by show 2 * 0 + _ ≤ _; exact Nat.le_of_eq rfl) (hb hby at_33) (fun _ _ => ⟨rfl, rfl, (by decide : 2 + 1 ≤ _), (by decide : 8 + 12 ≤ _)⟩)
    dsimp only [Pt.U, Pt.locs, Pt.cells, Pt.slots] at X7 l7 y7 z7 st7 hQ7
    subst l7 y7 z7
    obtain ⟨rfl, Nq7, Kc7, Fs7, b7, mz7, f7, g_b7, ne_b5_b7, Fe7, Vc7, hma7, hmb7, hmc7, hne7, hnf7, hol7, hin7⟩ := hQ7
    have Nf := Fr.app Nf Nq7
    have E_b5 := E_b5.keep Kc7
    have Zs := Nat.le_trans Zs Kc7.1
    have F_size_b5 := Fs7
    have F_entries_b5 := Fe7
    have V_b7 := Vc7
    have hA7_0 : f7 0 = .int i1 := hne7
    have hB7_0 : f7 1 = .int i5 := hnf7
    refine own_by (B := T7.setTop (mkF m 36 #[.val (.int i0), .val (.int i1), .val (.int i2), .val (.int i3), .val (.int i4), .val (.int i5), .val (.int (Int32.ofNat cap)), .val (.int (1 : Int32)), .val (.ref b5), .unset, .unset, .unset] [])) (fun t k => st7.trans k) ?_
    refine own_by (B := T7.setTop (mkF m 38 #[.val (.int i0), .val (.int i1), .val (.int i2), .val (.int i3), .val (.int i4), .val (.int i5), .val (.int (Int32.ofNat cap)), .val (.int (1 : Int32)), .val (.ref b5), .unset, .unset, .unset] [(.int (1 : Int32))])) (fun t k => XS.iload X7.here hx rfl (hb hby at_36) rfl k) ?_
    refine own_by (B := T7.setTop (mkF m 39 #[.val (.int i0), .val (.int i1), .val (.int i2), .val (.int i3), .val (.int i4), .val (.int i5), .val (.int (Int32.ofNat cap)), .val (.int (1 : Int32)), .val (.ref b5), .unset, .unset, .unset] [(.int (1 : Int32)), (.int (1 : Int32))])) (fun t k => XS.iconst X7.here hx rfl (hb hby at_38) k) ?_
    refine own_by (B := T7.setTop (mkF m 52 #[.val (.int i0), .val (.int i1), .val (.int i2), .val (.int i3), .val (.int i4), .val (.int i5), .val (.int (Int32.ofNat cap)), .val (.int (1 : Int32)), .val (.ref b5), .unset, .unset, .unset] [])) (fun t k => XS.icmpYes X7.here hx rfl (pc0 := 39) (pc' := 52) rfl (hb hby at_39) rfl (flt (by decide)).2.2.2 (by decide) (by decide) k) ?_
    refine own_by (B := T7.setTop (mkF m 54 #[.val (.int i0), .val (.int i1), .val (.int i2), .val (.int i3), .val (.int i4), .val (.int i5), .val (.int (Int32.ofNat cap)), .val (.int (1 : Int32)), .val (.ref b5), .unset, .unset, .unset] [(.int (1 : Int32))])) (fun t k => XS.iload X7.here hx rfl (hb hby at_52) rfl k) ?_
    refine own_by (B := T7.setTop (mkF m 55 #[.val (.int i0), .val (.int i1), .val (.int i2), .val (.int i3), .val (.int i4), .val (.int i5), .val (.int (Int32.ofNat cap)), .val (.int (1 : Int32)), .val (.ref b5), .unset, .unset, .unset] [(.int (2 : Int32)), (.int (1 : Int32))])) (fun t k => XS.iconst X7.here hx rfl (hb hby at_54) k) ?_
    refine own_by (B := T7.setTop (mkF m 68 #[.val (.int i0), .val (.int i1), .val (.int i2), .val (.int i3), .val (.int i4), .val (.int i5), .val (.int (Int32.ofNat cap)), .val (.int (1 : Int32)), .val (.ref b5), .unset, .unset, .unset] [])) (fun t k => XS.icmpYes X7.here hx rfl (pc0 := 55) (pc' := 68) rfl (hb hby at_55) rfl (flt (by decide)).2.2.2 (by decide) (by decide) k) ?_
    refine own_by (B := T7.setTop (mkF m 70 #[.val (.int i0), .val (.int i1), .val (.int i2), .val (.int i3), .val (.int i4), .val (.int i5), .val (.int (Int32.ofNat cap)), .val (.int (1 : Int32)), .val (.ref b5), .unset, .unset, .unset] [(.int (1 : Int32))])) (fun t k => XS.iload X7.here hx rfl (hb hby at_68) rfl k) ?_
    refine own_by (B := T7.setTop (mkF m 71 #[.val (.int i0), .val (.int i1), .val (.int i2), .val (.int i3), .val (.int i4), .val (.int i5), .val (.int (Int32.ofNat cap)), .val (.int (1 : Int32)), .val (.ref b5), .unset, .unset, .unset] [(.int (3 : Int32)), (.int (1 : Int32))])) (fun t k => XS.iconst X7.here hx rfl (hb hby at_70) k) ?_
    refine own_by (B := T7.setTop (mkF m 85 #[.val (.int i0), .val (.int i1), .val (.int i2), .val (.int i3), .val (.int i4), .val (.int i5), .val (.int (Int32.ofNat cap)), .val (.int (1 : Int32)), .val (.ref b5), .unset, .unset, .unset] [])) (fun t k => XS.icmpYes X7.here hx rfl (pc0 := 71) (pc' := 85) rfl (hb hby at_71) rfl (flt (by decide)).2.2.2 (by decide) (by decide) k) ?_
    refine own_by (B := T7.setTop (mkF m 87 #[.val (.int i0), .val (.int i1), .val (.int i2), .val (.int i3), .val (.int i4), .val (.int i5), .val (.int (Int32.ofNat cap)), .val (.int (1 : Int32)), .val (.ref b5), .unset, .unset, .unset] [(.ref b5)])) (fun t k => XS.aload X7.here hx rfl (hb hby at_85) rfl rfl k) ?_
    obtain ⟨cq8, kq8, q8a, q8b, q8c⟩ := isOf hZ rfl E_b5
    obtain ⟨_, _, ⟨T8, L8, k8, n8⟩, -, X8, ⟨Lc8, hQ8, l8, y8, z8⟩, st8⟩ := X7.virtualBack hx (y := (⟨"com/example/surrogate/surrogate/index/Entries", "numbers", "()[I"⟩ : MethodName)) (z := (⟨"com/example/surrogate/surrogate/index/Entries", "numbers", "()[I"⟩ : MethodName)) hown (mvT hZ (hw _ (List.mem_of_getElem? (i := 12) rfl))) (mvT hZ (hw _ (List.mem_of_getElem? (i := 13) rfl))) (notFace_of_selects (args := #[]) (mvT hZ (hw _ (List.mem_of_getElem? (i := 15) rfl)))) (mvT hZ (hw _ (List.mem_of_getElem? (i := 15) rfl))) (mvT hZ (hw _ (List.mem_of_getElem? (i := 14) rfl))) (by decide) (backOf (W := 0) (rmF1 l Z a0 hw [] b5 b7 mz7 f7 i1 T7.heap n0 Zs F_size_b5 F_entries_b5 V_b7 ne_b5_b7 (by omega) (by omega) hA7_0) hZ (hw _ (List.mem_of_getElem? (i := 16) rfl)) (hw _ (List.mem_of_getElem? (i := 2) rfl)) (by decide) (by decide)) q8a q8c (g := (mkF m 87 #[.val (.int i0), .val (.int i1), .val (.int i2), .val (.int i3), .val (.int i4), .val (.int i5), .val (.int (Int32.ofNat cap)), .val (.int (1 : Int32)), .val (.ref b5), .unset, .unset, .unset] [(.ref b5)])) rfl (by rw [hml]; rfl) (Steps.refl _) (argsL := []) (rest := []) (lenOf own_pd3 rfl) rfl (by show 2 * 0 + _ ≤ _; exact Nat.le_of_eq rfl) (hb hby at_87) (fun _ _ => ⟨rfl, rfl, (by decide : 3 + 1 ≤ _), (by decide : 20 + 1 ≤ _)⟩)
    dsimp only [Pt.U, Pt.locs, Pt.cells, Pt.slots] at X8 l8 y8 z8 st8 hQ8
    subst l8 y8 z8
    obtain ⟨rfl, Nq8, Kc8, g8, Vc8, hg8_0⟩ := hQ8
    have Nf := Fr.app Nf Nq8
    obtain ⟨b8, gq8⟩ : ∃ z, z = T7.heap.size := ⟨_, rfl⟩
    rw [← gq8] at Vc8 st8
    have ne_b5_b8 : b5 ≠ b8 := Nat.ne_of_lt (Nat.lt_of_lt_of_le E_b5.lt (Nat.le_of_eq gq8.symm))
    have ne_b7_b8 : b7 ≠ b8 := Nat.ne_of_lt (Nat.lt_of_lt_of_le V_b7.lt (Nat.le_of_eq gq8.symm))
    have g_b8 : n0 ≤ b8 := Nat.le_trans Zs (Nat.le_of_eq gq8.symm)
    have E_b5 := E_b5.keep Kc8
    have F_size_b5 := F_size_b5.keep Kc8 nin0
    have F_entries_b5 := F_entries_b5.keep Kc8 nin0
    have V_b7 := V_b7.keep Kc8 nin0
    have Zs := Nat.le_trans Zs Kc8.1
    have V_b8 := Vc8
    refine own_by (B := T8.setTop (mkF m 90 #[.val (.int i0), .val (.int i1), .val (.int i2), .val (.int i3), .val (.int i4), .val (.int i5), .val (.int (Int32.ofNat cap)), .val (.int (1 : Int32)), .val (.ref b5), .unset, .unset, .unset] [(.ref b8)])) (fun t k => st8.trans k) ?_
    refine own_by (B := T8.setTop (mkF m 92 #[.val (.int i0), .val (.int i1), .val (.int i2), .val (.int i3), .val (.int i4), .val (.int i5), .val (.int (Int32.ofNat cap)), .val (.int (1 : Int32)), .val (.ref b5), .val (.ref b8), .unset, .unset] [])) (fun t k => XS.astore X8.here hx rfl (hb hby at_90) rfl rfl (l' := #[.val (.int i0), .val (.int i1), .val (.int i2), .val (.int i3), .val (.int i4), .val (.int i5), .val (.int (Int32.ofNat cap)), .val (.int (1 : Int32)), .val (.ref b5), .val (.ref b8), .unset, .unset]) rfl k) ?_
    refine own_by (B := T8.setTop (mkF m 94 #[.val (.int i0), .val (.int i1), .val (.int i2), .val (.int i3), .val (.int i4), .val (.int i5), .val (.int (Int32.ofNat cap)), .val (.int (1 : Int32)), .val (.ref b5), .val (.ref b8), .unset, .unset] [(.ref b8)])) (fun t k => XS.aload X8.here hx rfl (hb hby at_92) rfl rfl k) ?_
    obtain ⟨cl9, Ar9, Sz9, Ng9, -⟩ := id V_b8
    refine own_by (B := T8.setTop (mkF m 95 #[.val (.int i0), .val (.int i1), .val (.int i2), .val (.int i3), .val (.int i4), .val (.int i5), .val (.int (Int32.ofNat cap)), .val (.int (1 : Int32)), .val (.ref b5), .val (.ref b8), .unset, .unset] [(.int (1 : Int32))])) (fun t k => X8.arraylength hx Ar9.1 (State.isArrayOf_alike hZ.alike Ar9.2.1) (g := (mkF m 94 #[.val (.int i0), .val (.int i1), .val (.int i2), .val (.int i3), .val (.int i4), .val (.int i5), .val (.int (Int32.ofNat cap)), .val (.int (1 : Int32)), .val (.ref b5), .val (.ref b8), .unset, .unset] [(.ref b8)])) rfl rfl (hb hby at_94) _ (by rw [len_of Sz9 Ng9]; exact k)) ?_
    refine own_by (B := T8.setTop (mkF m 97 #[.val (.int i0), .val (.int i1), .val (.int i2), .val (.int i3), .val (.int i4), .val (.int i5), .val (.int (Int32.ofNat cap)), .val (.int (1 : Int32)), .val (.ref b5), .val (.ref b8), .unset, .unset] [(.int (1 : Int32)), (.int (1 : Int32))])) (fun t k => XS.iload X8.here hx rfl (hb hby at_95) rfl k) ?_
    refine own_by (B := T8.setTop (mkF m 102 #[.val (.int i0), .val (.int i1), .val (.int i2), .val (.int i3), .val (.int i4), .val (.int i5), .val (.int (Int32.ofNat cap)), .val (.int (1 : Int32)), .val (.ref b5), .val (.ref b8), .unset, .unset] [])) (fun t k => XS.icmpYes X8.here hx rfl (pc0 := 97) (pc' := 102) rfl (hb hby at_97) rfl (teq (by decide)).1 (by decide) (by decide) k) ?_
    refine own_by (B := T8.setTop (mkF m 103 #[.val (.int i0), .val (.int i1), .val (.int i2), .val (.int i3), .val (.int i4), .val (.int i5), .val (.int (Int32.ofNat cap)), .val (.int (1 : Int32)), .val (.ref b5), .val (.ref b8), .unset, .unset] [(.int (1 : Int32))])) (fun t k => XS.iconst X8.here hx rfl (hb hby at_102) k) ?_
    refine own_by (B := T8.setTop (mkF m 105 #[.val (.int i0), .val (.int i1), .val (.int i2), .val (.int i3), .val (.int i4), .val (.int i5), .val (.int (Int32.ofNat cap)), .val (.int (1 : Int32)), .val (.ref b5), .val (.ref b8), .val (.int (1 : Int32)), .unset] [])) (fun t k => XS.istore X8.here hx rfl (hb hby at_103) rfl (l' := #[.val (.int i0), .val (.int i1), .val (.int i2), .val (.int i3), .val (.int i4), .val (.int i5), .val (.int (Int32.ofNat cap)), .val (.int (1 : Int32)), .val (.ref b5), .val (.ref b8), .val (.int (1 : Int32)), .unset]) rfl k) ?_
    refine own_by (B := T8.setTop (mkF m 107 #[.val (.int i0), .val (.int i1), .val (.int i2), .val (.int i3), .val (.int i4), .val (.int i5), .val (.int (Int32.ofNat cap)), .val (.int (1 : Int32)), .val (.ref b5), .val (.ref b8), .val (.int (1 : Int32)), .unset] [(.int (1 : Int32))])) (fun t k => XS.iload X8.here hx rfl (hb hby at_105) rfl k) ?_
    refine own_by (B := T8.setTop (mkF m 110 #[.val (.int i0), .val (.int i1), .val (.int i2), .val (.int i3), .val (.int i4), .val (.int i5), .val (.int (Int32.ofNat cap)), .val (.int (1 : Int32)), .val (.ref b5), .val (.ref b8), .val (.int (1 : Int32)), .unset] [])) (fun t k => XS.ifNo X8.here hx rfl (hb hby at_107) rfl ((if0 _ _).trans (tlt (by decide)).2.2.2) k) ?_
    refine own_by (B := T8.setTop (mkF m 112 #[.val (.int i0), .val (.int i1), .val (.int i2), .val (.int i3), .val (.int i4), .val (.int i5), .val (.int (Int32.ofNat cap)), .val (.int (1 : Int32)), .val (.ref b5), .val (.ref b8), .val (.int (1 : Int32)), .unset] [(.int (1 : Int32))])) (fun t k => XS.iload X8.here hx rfl (hb hby at_110) rfl k) ?_
    refine own_by (B := T8.setTop (mkF m 115 #[.val (.int i0), .val (.int i1), .val (.int i2), .val (.int i3), .val (.int i4), .val (.int i5), .val (.int (Int32.ofNat cap)), .val (.int (1 : Int32)), .val (.ref b5), .val (.ref b8), .val (.int (1 : Int32)), .unset] [])) (fun t k => XS.ifNo X8.here hx rfl (hb hby at_112) rfl ((if0 _ _).trans (feq (by decide)).1) k) ?_
    refine own_by (B := T8.setTop (mkF m 117 #[.val (.int i0), .val (.int i1), .val (.int i2), .val (.int i3), .val (.int i4), .val (.int i5), .val (.int (Int32.ofNat cap)), .val (.int (1 : Int32)), .val (.ref b5), .val (.ref b8), .val (.int (1 : Int32)), .unset] [(.ref b8)])) (fun t k => XS.aload X8.here hx rfl (hb hby at_115) rfl rfl k) ?_
    refine own_by (B := T8.setTop (mkF m 118 #[.val (.int i0), .val (.int i1), .val (.int i2), .val (.int i3), .val (.int i4), .val (.int i5), .val (.int (Int32.ofNat cap)), .val (.int (1 : Int32)), .val (.ref b5), .val (.ref b8), .val (.int (1 : Int32)), .unset] [(.int (0 : Int32)), (.ref b8)])) (fun t k => XS.iconst X8.here hx rfl (hb hby at_117) k) ?_
    obtain ⟨cl10, Ar10, hin10, hat10⟩ := V_b8.at (j := (0 : Int32)) ⟨by decide, by decide⟩
    have hat10 := hat10.trans (congrArg some (show _ = (.int i1) from hg8_0))
    refine own_by (B := T8.setTop (mkF m 119 #[.val (.int i0), .val (.int i1), .val (.int i2), .val (.int i3), .val (.int i4), .val (.int i5), .val (.int (Int32.ofNat cap)), .val (.int (1 : Int32)), .val (.ref b5), .val (.ref b8), .val (.int (1 : Int32)), .unset] [(.int i1)])) (fun t k => X8.iaload hx (j := (0 : Int32)) (v := (.int i1)) Ar10.1 (State.isArrayOf_alike hZ.alike Ar10.2.1) Ar10.2.2 hin10 hat10 (g := (mkF m 118 #[.val (.int i0), .val (.int i1), .val (.int i2), .val (.int i3), .val (.int i4), .val (.int i5), .val (.int (Int32.ofNat cap)), .val (.int (1 : Int32)), .val (.ref b5), .val (.ref b8), .val (.int (1 : Int32)), .unset] [(.int (0 : Int32)), (.ref b8)])) rfl rfl (hb hby at_118) _ k) ?_
    refine own_by (B := T8.setTop (mkF m 120 #[.val (.int i0), .val (.int i1), .val (.int i2), .val (.int i3), .val (.int i4), .val (.int i5), .val (.int (Int32.ofNat cap)), .val (.int (1 : Int32)), .val (.ref b5), .val (.ref b8), .val (.int (1 : Int32)), .unset] [(.int i1), (.int i1)])) (fun t k => XS.iloadN X8.here hx rfl (hb hby at_119) rfl k) ?_
    refine own_by (B := T8.setTop (mkF m 123 #[.val (.int i0), .val (.int i1), .val (.int i2), .val (.int i3), .val (.int i4), .val (.int i5), .val (.int (Int32.ofNat cap)), .val (.int (1 : Int32)), .val (.ref b5), .val (.ref b8), .val (.int (1 : Int32)), .unset] [])) (fun t k => XS.icmpNo X8.here hx rfl (hb hby at_120) rfl (teq rfl).2 k) ?_
    refine own_by (B := T8.setTop (mkF m 124 #[.val (.int i0), .val (.int i1), .val (.int i2), .val (.int i3), .val (.int i4), .val (.int i5), .val (.int (Int32.ofNat cap)), .val (.int (1 : Int32)), .val (.ref b5), .val (.ref b8), .val (.int (1 : Int32)), .unset] [(.int (1 : Int32))])) (fun t k => XS.iconst X8.here hx rfl (hb hby at_123) k) ?_
    refine own_by (B := T8.setTop (mkF m 128 #[.val (.int i0), .val (.int i1), .val (.int i2), .val (.int i3), .val (.int i4), .val (.int i5), .val (.int (Int32.ofNat cap)), .val (.int (1 : Int32)), .val (.ref b5), .val (.ref b8), .val (.int (1 : Int32)), .unset] [(.int (1 : Int32))])) (fun t k => XS.goto X8.here hx rfl (pc0 := 124) (pc' := 128) rfl (hb hby at_124) (by decide) (by decide) k) ?_
    refine own_by (B := T8.setTop (mkF m 130 #[.val (.int i0), .val (.int i1), .val (.int i2), .val (.int i3), .val (.int i4), .val (.int i5), .val (.int (Int32.ofNat cap)), .val (.int (1 : Int32)), .val (.ref b5), .val (.ref b8), .val (.int (1 : Int32)), .unset] [])) (fun t k => XS.istore X8.here hx rfl (hb hby at_128) rfl (l' := #[.val (.int i0), .val (.int i1), .val (.int i2), .val (.int i3), .val (.int i4), .val (.int i5), .val (.int (Int32.ofNat cap)), .val (.int (1 : Int32)), .val (.ref b5), .val (.ref b8), .val (.int (1 : Int32)), .unset]) rfl k) ?_
    refine own_by (B := T8.setTop (mkF m 132 #[.val (.int i0), .val (.int i1), .val (.int i2), .val (.int i3), .val (.int i4), .val (.int i5), .val (.int (Int32.ofNat cap)), .val (.int (1 : Int32)), .val (.ref b5), .val (.ref b8), .val (.int (1 : Int32)), .unset] [(.int (1 : Int32))])) (fun t k => XS.iload X8.here hx rfl (hb hby at_130) rfl k) ?_
    refine own_by (B := T8.setTop (mkF m 133 #[.val (.int i0), .val (.int i1), .val (.int i2), .val (.int i3), .val (.int i4), .val (.int i5), .val (.int (Int32.ofNat cap)), .val (.int (1 : Int32)), .val (.ref b5), .val (.ref b8), .val (.int (1 : Int32)), .unset] [(.int (1 : Int32)), (.int (1 : Int32))])) (fun t k => XS.iconst X8.here hx rfl (hb hby at_132) k) ?_
    refine own_by (B := T8.setTop (mkF m 156 #[.val (.int i0), .val (.int i1), .val (.int i2), .val (.int i3), .val (.int i4), .val (.int i5), .val (.int (Int32.ofNat cap)), .val (.int (1 : Int32)), .val (.ref b5), .val (.ref b8), .val (.int (1 : Int32)), .unset] [])) (fun t k => XS.icmpYes X8.here hx rfl (pc0 := 133) (pc' := 156) rfl (hb hby at_133) rfl (flt (by decide)).2.2.2 (by decide) (by decide) k) ?_
    refine own_by (B := T8.setTop (mkF m 158 #[.val (.int i0), .val (.int i1), .val (.int i2), .val (.int i3), .val (.int i4), .val (.int i5), .val (.int (Int32.ofNat cap)), .val (.int (1 : Int32)), .val (.ref b5), .val (.ref b8), .val (.int (1 : Int32)), .unset] [(.int (1 : Int32))])) (fun t k => XS.iload X8.here hx rfl (hb hby at_156) rfl k) ?_
    refine own_by (B := T8.setTop (mkF m 159 #[.val (.int i0), .val (.int i1), .val (.int i2), .val (.int i3), .val (.int i4), .val (.int i5), .val (.int (Int32.ofNat cap)), .val (.int (1 : Int32)), .val (.ref b5), .val (.ref b8), .val (.int (1 : Int32)), .unset] [(.int (2 : Int32)), (.int (1 : Int32))])) (fun t k => XS.iconst X8.here hx rfl (hb hby at_158) k) ?_
    refine own_by (B := T8.setTop (mkF m 182 #[.val (.int i0), .val (.int i1), .val (.int i2), .val (.int i3), .val (.int i4), .val (.int i5), .val (.int (Int32.ofNat cap)), .val (.int (1 : Int32)), .val (.ref b5), .val (.ref b8), .val (.int (1 : Int32)), .unset] [])) (fun t k => XS.icmpYes X8.here hx rfl (pc0 := 159) (pc' := 182) rfl (hb hby at_159) rfl (flt (by decide)).2.2.2 (by decide) (by decide) k) ?_
    refine own_by (B := T8.setTop (mkF m 184 #[.val (.int i0), .val (.int i1), .val (.int i2), .val (.int i3), .val (.int i4), .val (.int i5), .val (.int (Int32.ofNat cap)), .val (.int (1 : Int32)), .val (.ref b5), .val (.ref b8), .val (.int (1 : Int32)), .unset] [(.int (1 : Int32))])) (fun t k => XS.iload X8.here hx rfl (hb hby at_182) rfl k) ?_
    refine own_by (B := T8.setTop (mkF m 185 #[.val (.int i0), .val (.int i1), .val (.int i2), .val (.int i3), .val (.int i4), .val (.int i5), .val (.int (Int32.ofNat cap)), .val (.int (1 : Int32)), .val (.ref b5), .val (.ref b8), .val (.int (1 : Int32)), .unset] [(.int (3 : Int32)), (.int (1 : Int32))])) (fun t k => XS.iconst X8.here hx rfl (hb hby at_184) k) ?_
    refine own_by (B := T8.setTop (mkF m 209 #[.val (.int i0), .val (.int i1), .val (.int i2), .val (.int i3), .val (.int i4), .val (.int i5), .val (.int (Int32.ofNat cap)), .val (.int (1 : Int32)), .val (.ref b5), .val (.ref b8), .val (.int (1 : Int32)), .unset] [])) (fun t k => XS.icmpYes X8.here hx rfl (pc0 := 185) (pc' := 209) rfl (hb hby at_185) rfl (flt (by decide)).2.2.2 (by decide) (by decide) k) ?_
    refine own_by (B := T8.setTop (mkF m 211 #[.val (.int i0), .val (.int i1), .val (.int i2), .val (.int i3), .val (.int i4), .val (.int i5), .val (.int (Int32.ofNat cap)), .val (.int (1 : Int32)), .val (.ref b5), .val (.ref b8), .val (.int (1 : Int32)), .unset] [(.int (1 : Int32))])) (fun t k => XS.iload X8.here hx rfl (hb hby at_209) rfl k) ?_
    refine own_by (B := T8.setTop (mkF m 214 #[.val (.int i0), .val (.int i1), .val (.int i2), .val (.int i3), .val (.int i4), .val (.int i5), .val (.int (Int32.ofNat cap)), .val (.int (1 : Int32)), .val (.ref b5), .val (.ref b8), .val (.int (1 : Int32)), .unset] [])) (fun t k => XS.ifNo X8.here hx rfl (hb hby at_211) rfl ((if0 _ _).trans (tlt (by decide)).2.2.2) k) ?_
    refine own_by (B := T8.setTop (mkF m 216 #[.val (.int i0), .val (.int i1), .val (.int i2), .val (.int i3), .val (.int i4), .val (.int i5), .val (.int (Int32.ofNat cap)), .val (.int (1 : Int32)), .val (.ref b5), .val (.ref b8), .val (.int (1 : Int32)), .unset] [(.ref b8)])) (fun t k => XS.aload X8.here hx rfl (hb hby at_214) rfl rfl k) ?_
    refine own_by (B := T8.setTop (mkF m 217 #[.val (.int i0), .val (.int i1), .val (.int i2), .val (.int i3), .val (.int i4), .val (.int i5), .val (.int (Int32.ofNat cap)), .val (.int (1 : Int32)), .val (.ref b5), .val (.ref b8), .val (.int (1 : Int32)), .unset] [(.int (0 : Int32)), (.ref b8)])) (fun t k => XS.iconst X8.here hx rfl (hb hby at_216) k) ?_
    refine own_by (B := T8.setTop (mkF m 218 #[.val (.int i0), .val (.int i1), .val (.int i2), .val (.int i3), .val (.int i4), .val (.int i5), .val (.int (Int32.ofNat cap)), .val (.int (1 : Int32)), .val (.ref b5), .val (.ref b8), .val (.int (1 : Int32)), .unset] [(.int i1), (.int (0 : Int32)), (.ref b8)])) (fun t k => XS.iloadN X8.here hx rfl (hb hby at_217) rfl k) ?_
    refine own_by (B := T8.setTop (mkF m 219 #[.val (.int i0), .val (.int i1), .val (.int i2), .val (.int i3), .val (.int i4), .val (.int i5), .val (.int (Int32.ofNat cap)), .val (.int (1 : Int32)), .val (.ref b5), .val (.ref b8), .val (.int (1 : Int32)), .unset] [(.int (-1 : Int32)), (.int i1), (.int (0 : Int32)), (.ref b8)])) (fun t k => XS.iconst X8.here hx rfl (hb hby at_218) k) ?_
    refine own_by (B := T8.setTop (mkF m 220 #[.val (.int i0), .val (.int i1), .val (.int i2), .val (.int i3), .val (.int i4), .val (.int i5), .val (.int (Int32.ofNat cap)), .val (.int (1 : Int32)), .val (.ref b5), .val (.ref b8), .val (.int (1 : Int32)), .unset] [(.int (i1 ^^^ (-1 : Int32))), (.int (0 : Int32)), (.ref b8)])) (fun t k => XS.ixor X8.here hx rfl (hb hby at_219) rfl k) ?_
    obtain ⟨cl11, Ar11, hin11, -⟩ := V_b8.at (j := (0 : Int32)) ⟨by decide, by decide⟩
    obtain ⟨T11, h11, X11, e11, W11, st11⟩ := stI X8 hx hZ rfl Ar11 (j := (0 : Int32)) hin11 (g := (mkF m 220 #[.val (.int i0), .val (.int i1), .val (.int i2), .val (.int i3), .val (.int i4), .val (.int i5), .val (.int (Int32.ofNat cap)), .val (.int (1 : Int32)), .val (.ref b5), .val (.ref b8), .val (.int (1 : Int32)), .unset] [(.int (i1 ^^^ (-1 : Int32))), (.int (0 : Int32)), (.ref b8)])) rfl rfl (hb hby at_220)
    have E_b5 := E_b5.wr W11
    have F_size_b5 := F_size_b5.other W11 (Or.inl ne_b5_b8)
    have F_entries_b5 := F_entries_b5.other W11 (Or.inl ne_b5_b8)
    have V_b7 := V_b7.other W11 ne_b7_b8
    have V_b8 := V_b8.set W11
    have Zs : n0 ≤ h11.size := by rw [W11.size]; exact Zs
    have Nf := Fr.snoc X11 Nf g_b8
    refine own_by (B := T11.setTop (mkF m 221 #[.val (.int i0), .val (.int i1), .val (.int i2), .val (.int i3), .val (.int i4), .val (.int i5), .val (.int (Int32.ofNat cap)), .val (.int (1 : Int32)), .val (.ref b5), .val (.ref b8), .val (.int (1 : Int32)), .unset] [])) st11 ?_
    refine own_by (B := T11.setTop (mkF m 223 #[.val (.int i0), .val (.int i1), .val (.int i2), .val (.int i3), .val (.int i4), .val (.int i5), .val (.int (Int32.ofNat cap)), .val (.int (1 : Int32)), .val (.ref b5), .val (.ref b8), .val (.int (1 : Int32)), .unset] [(.ref b5)])) (fun t k => XS.aload X11.here hx rfl (hb hby at_221) rfl rfl k) ?_
    obtain ⟨cq12, kq12, q12a, q12b, q12c⟩ := isOf hZ e11 E_b5
    obtain ⟨_, _, ⟨T12, L12, k12, n12⟩, -, X12, ⟨Lc12, hQ12, l12, y12, z12⟩, st12⟩ := X11.virtualBack hx (y := (⟨"com/example/surrogate/surrogate/index/Entries", "numbers", "()[I"⟩ : MethodName)) (z := (⟨"com/example/surrogate/surrogate/index/Entries", "numbers", "()[I"⟩ : MethodName)) hown (mvT hZ (hw _ (List.mem_of_getElem? (i := 12) rfl))) (mvT hZ (hw _ (List.mem_of_getElem? (i := 13) rfl))) (notFace_of_selects (args := #[]) (mvT hZ (hw _ (List.mem_of_getElem? (i := 15) rfl)))) (mvT hZ (hw _ (List.mem_of_getElem? (i := 15) rfl))) (mvT hZ (hw _ (List.mem_of_getElem? (i := 14) rfl))) (by decide) (backOf (W := 0) (rmF1 l Z a0 hw [] b5 b7 mz7 f7 i1 h11 n0 Zs F_size_b5 F_entries_b5 V_b7 ne_b5_b7 (by omega) (by omega) hA7_0) hZ (hw _ (List.mem_of_getElem? (i := 16) rfl)) (hw _ (List.mem_of_getElem? (i := 2) rfl)) (by decide) (by decide)) q12a q12c (g := (mkF m 223 #[.val (.int i0), .val (.int i1), .val (.int i2), .val (.int i3), .val (.int i4), .val (.int i5), .val (.int (Int32.ofNat cap)), .val (.int (1 : Int32)), .val (.ref b5), .val (.ref b8), .val (.int (1 : Int32)), .unset] [(.ref b5)])) rfl (by rw [hml]; rfl) (Steps.refl _) (argsL := []) (rest := []) (lenOf own_pd3 rfl) rfl (by show 2 * 0 + _ ≤ _; exact Nat.le_of_eq rfl) (hb hby at_223) (fun _ _ => ⟨rfl, e11, (by decide : 4 + 1 ≤ _), (by decide : 21 + 1 ≤ _)⟩)
    dsimp only [Pt.U, Pt.locs, Pt.cells, Pt.slots] at X12 l12 y12 z12 st12 hQ12
    subst l12 y12 z12
    obtain ⟨rfl, Nq12, Kc12, g12, Vc12, hg12_0⟩ := hQ12
    have Nf := Fr.app Nf Nq12
    obtain ⟨b12, gq12⟩ : ∃ z, z = h11.size := ⟨_, rfl⟩
    rw [← gq12] at Vc12 st12
    have ne_b5_b12 : b5 ≠ b12 := Nat.ne_of_lt (Nat.lt_of_lt_of_le E_b5.lt (Nat.le_of_eq gq12.symm))
    have ne_b7_b12 : b7 ≠ b12 := Nat.ne_of_lt (Nat.lt_of_lt_of_le V_b7.lt (Nat.le_of_eq gq12.symm))
    have ne_b8_b12 : b8 ≠ b12 := Nat.ne_of_lt (Nat.lt_of_lt_of_le V_b8.lt (Nat.le_of_eq gq12.symm))
    have g_b12 : n0 ≤ b12 := Nat.le_trans Zs (Nat.le_of_eq gq12.symm)
    have E_b5 := E_b5.keep Kc12
    have F_size_b5 := F_size_b5.keep Kc12 nin0
    have F_entries_b5 := F_entries_b5.keep Kc12 nin0
    have V_b7 := V_b7.keep Kc12 nin0
    have V_b8 := V_b8.keep Kc12 nin0
    have Zs := Nat.le_trans Zs Kc12.1
    have V_b12 := Vc12
    refine own_by (B := T12.setTop (mkF m 226 #[.val (.int i0), .val (.int i1), .val (.int i2), .val (.int i3), .val (.int i4), .val (.int i5), .val (.int (Int32.ofNat cap)), .val (.int (1 : Int32)), .val (.ref b5), .val (.ref b8), .val (.int (1 : Int32)), .unset] [(.ref b12)])) (fun t k => st12.trans k) ?_
    refine own_by (B := T12.setTop (mkF m 228 #[.val (.int i0), .val (.int i1), .val (.int i2), .val (.int i3), .val (.int i4), .val (.int i5), .val (.int (Int32.ofNat cap)), .val (.int (1 : Int32)), .val (.ref b5), .val (.ref b8), .val (.int (1 : Int32)), .val (.ref b12)] [])) (fun t k => XS.astore X12.here hx rfl (hb hby at_226) rfl rfl (l' := #[.val (.int i0), .val (.int i1), .val (.int i2), .val (.int i3), .val (.int i4), .val (.int i5), .val (.int (Int32.ofNat cap)), .val (.int (1 : Int32)), .val (.ref b5), .val (.ref b8), .val (.int (1 : Int32)), .val (.ref b12)]) rfl k) ?_
    refine own_by (B := T12.setTop (mkF m 230 #[.val (.int i0), .val (.int i1), .val (.int i2), .val (.int i3), .val (.int i4), .val (.int i5), .val (.int (Int32.ofNat cap)), .val (.int (1 : Int32)), .val (.ref b5), .val (.ref b8), .val (.int (1 : Int32)), .val (.ref b12)] [(.ref b12)])) (fun t k => XS.aload X12.here hx rfl (hb hby at_228) rfl rfl k) ?_
    refine own_by (B := T12.setTop (mkF m 232 #[.val (.int i0), .val (.int i1), .val (.int i2), .val (.int i3), .val (.int i4), .val (.int i5), .val (.int (Int32.ofNat cap)), .val (.int (1 : Int32)), .val (.ref b5), .val (.ref b8), .val (.int (1 : Int32)), .val (.ref b12)] [(.ref b8), (.ref b12)])) (fun t k => XS.aload X12.here hx rfl (hb hby at_230) rfl rfl k) ?_
    refine own_by (B := T12.setTop (mkF m 235 #[.val (.int i0), .val (.int i1), .val (.int i2), .val (.int i3), .val (.int i4), .val (.int i5), .val (.int (Int32.ofNat cap)), .val (.int (1 : Int32)), .val (.ref b5), .val (.ref b8), .val (.int (1 : Int32)), .val (.ref b12)] [])) (fun t k => Jvm.RoadKit.acmp (g := (mkF m 232 #[.val (.int i0), .val (.int i1), .val (.int i2), .val (.int i3), .val (.int i4), .val (.int i5), .val (.int (Int32.ofNat cap)), .val (.int (1 : Int32)), .val (.ref b5), .val (.ref b8), .val (.int (1 : Int32)), .val (.ref b12)] [(.ref b8), (.ref b12)])) X12 hx rfl rfl rfl (pc0 := 232) (pc' := 235) (same := false) rfl (hb hby at_232) rfl (decide_eq_false fun q => (Ne.symm ne_b8_b12) (Value.ref.inj q)) (by decide) (by decide) k) ?_
    refine own_by (B := T12.setTop (mkF m 237 #[.val (.int i0), .val (.int i1), .val (.int i2), .val (.int i3), .val (.int i4), .val (.int i5), .val (.int (Int32.ofNat cap)), .val (.int (1 : Int32)), .val (.ref b5), .val (.ref b8), .val (.int (1 : Int32)), .val (.ref b12)] [(.ref b12)])) (fun t k => XS.aload X12.here hx rfl (hb hby at_235) rfl rfl k) ?_
    obtain ⟨cl13, Ar13, Sz13, Ng13, -⟩ := id V_b12
    refine own_by (B := T12.setTop (mkF m 238 #[.val (.int i0), .val (.int i1), .val (.int i2), .val (.int i3), .val (.int i4), .val (.int i5), .val (.int (Int32.ofNat cap)), .val (.int (1 : Int32)), .val (.ref b5), .val (.ref b8), .val (.int (1 : Int32)), .val (.ref b12)] [(.int (1 : Int32))])) (fun t k => X12.arraylength hx Ar13.1 (State.isArrayOf_alike hZ.alike Ar13.2.1) (g := (mkF m 237 #[.val (.int i0), .val (.int i1), .val (.int i2), .val (.int i3), .val (.int i4), .val (.int i5), .val (.int (Int32.ofNat cap)), .val (.int (1 : Int32)), .val (.ref b5), .val (.ref b8), .val (.int (1 : Int32)), .val (.ref b12)] [(.ref b12)])) rfl rfl (hb hby at_237) _ (by rw [len_of Sz13 Ng13]; exact k)) ?_
    refine own_by (B := T12.setTop (mkF m 240 #[.val (.int i0), .val (.int i1), .val (.int i2), .val (.int i3), .val (.int i4), .val (.int i5), .val (.int (Int32.ofNat cap)), .val (.int (1 : Int32)), .val (.ref b5), .val (.ref b8), .val (.int (1 : Int32)), .val (.ref b12)] [(.int (1 : Int32)), (.int (1 : Int32))])) (fun t k => XS.iload X12.here hx rfl (hb hby at_238) rfl k) ?_
    refine own_by (B := T12.setTop (mkF m 243 #[.val (.int i0), .val (.int i1), .val (.int i2), .val (.int i3), .val (.int i4), .val (.int i5), .val (.int (Int32.ofNat cap)), .val (.int (1 : Int32)), .val (.ref b5), .val (.ref b8), .val (.int (1 : Int32)), .val (.ref b12)] [])) (fun t k => XS.icmpNo X12.here hx rfl (hb hby at_240) rfl (teq (by decide)).2 k) ?_
    refine own_by (B := T12.setTop (mkF m 245 #[.val (.int i0), .val (.int i1), .val (.int i2), .val (.int i3), .val (.int i4), .val (.int i5), .val (.int (Int32.ofNat cap)), .val (.int (1 : Int32)), .val (.ref b5), .val (.ref b8), .val (.int (1 : Int32)), .val (.ref b12)] [(.ref b12)])) (fun t k => XS.aload X12.here hx rfl (hb hby at_243) rfl rfl k) ?_
    refine own_by (B := T12.setTop (mkF m 246 #[.val (.int i0), .val (.int i1), .val (.int i2), .val (.int i3), .val (.int i4), .val (.int i5), .val (.int (Int32.ofNat cap)), .val (.int (1 : Int32)), .val (.ref b5), .val (.ref b8), .val (.int (1 : Int32)), .val (.ref b12)] [(.int (0 : Int32)), (.ref b12)])) (fun t k => XS.iconst X12.here hx rfl (hb hby at_245) k) ?_
    obtain ⟨cl14, Ar14, hin14, hat14⟩ := V_b12.at (j := (0 : Int32)) ⟨by decide, by decide⟩
    have hat14 := hat14.trans (congrArg some (show _ = (.int i1) from hg12_0))
    refine own_by (B := T12.setTop (mkF m 247 #[.val (.int i0), .val (.int i1), .val (.int i2), .val (.int i3), .val (.int i4), .val (.int i5), .val (.int (Int32.ofNat cap)), .val (.int (1 : Int32)), .val (.ref b5), .val (.ref b8), .val (.int (1 : Int32)), .val (.ref b12)] [(.int i1)])) (fun t k => X12.iaload hx (j := (0 : Int32)) (v := (.int i1)) Ar14.1 (State.isArrayOf_alike hZ.alike Ar14.2.1) Ar14.2.2 hin14 hat14 (g := (mkF m 246 #[.val (.int i0), .val (.int i1), .val (.int i2), .val (.int i3), .val (.int i4), .val (.int i5), .val (.int (Int32.ofNat cap)), .val (.int (1 : Int32)), .val (.ref b5), .val (.ref b8), .val (.int (1 : Int32)), .val (.ref b12)] [(.int (0 : Int32)), (.ref b12)])) rfl rfl (hb hby at_246) _ k) ?_
    refine own_by (B := T12.setTop (mkF m 248 #[.val (.int i0), .val (.int i1), .val (.int i2), .val (.int i3), .val (.int i4), .val (.int i5), .val (.int (Int32.ofNat cap)), .val (.int (1 : Int32)), .val (.ref b5), .val (.ref b8), .val (.int (1 : Int32)), .val (.ref b12)] [(.int i1), (.int i1)])) (fun t k => XS.iloadN X12.here hx rfl (hb hby at_247) rfl k) ?_
    refine own_by (B := T12.setTop (mkF m 253 #[.val (.int i0), .val (.int i1), .val (.int i2), .val (.int i3), .val (.int i4), .val (.int i5), .val (.int (Int32.ofNat cap)), .val (.int (1 : Int32)), .val (.ref b5), .val (.ref b8), .val (.int (1 : Int32)), .val (.ref b12)] [])) (fun t k => XS.icmpYes X12.here hx rfl (pc0 := 248) (pc' := 253) rfl (hb hby at_248) rfl (teq rfl).1 (by decide) (by decide) k) ?_
    refine own_by (B := T12.setTop (mkF m 255 #[.val (.int i0), .val (.int i1), .val (.int i2), .val (.int i3), .val (.int i4), .val (.int i5), .val (.int (Int32.ofNat cap)), .val (.int (1 : Int32)), .val (.ref b5), .val (.ref b8), .val (.int (1 : Int32)), .val (.ref b12)] [(.int (1 : Int32))])) (fun t k => XS.iload X12.here hx rfl (hb hby at_253) rfl k) ?_
    exact own_end X12 (v := some (.int (1 : Int32))) (fun h => by rw [Bd.returns] at h; cases h) (BodyLoose.notSynchronized Bd) (Q := (Q_rm0 Z i0 i1 i2 i3 i4 i5 h0 n0)) (fun fs hr => retN X12 hx (t := .boolean) Bd.returns (by simp) (hb hby at_255) hr) (show (Q_rm0 Z i0 i1 i2 i3 i4 i5 h0 n0) _ T12.heap _ from (⟨rfl, Nf⟩)) (by decide) (by decide)
  · rw [hq]
    obtain ⟨T15, h15, X15, e15, E15, A15, D15, -, st15⟩ := newO X0 hx hZ hown (hw _ (List.mem_of_getElem? (i := 0) rfl)) (hw _ (List.mem_of_getElem? (i := 1) rfl)) (hw _ (List.mem_of_getElem? (i := 2) rfl)) e0 (g := (mkF m 12 #[.val (.int i0), .val (.int i1), .val (.int i2), .val (.int i3), .val (.int i4), .val (.int i5), .val (.int (Int32.ofNat cap)), .val (.int (2 : Int32)), .unset, .unset, .unset, .unset] [])) rfl (hb hby at_12) (by decide) (by decide)
    obtain ⟨b15, gq15⟩ : ∃ z, z = h0.size := ⟨_, rfl⟩
    rw [← gq15] at A15 D15 st15
    have g_b15 : n0 ≤ b15 := Nat.le_trans Zs (Nat.le_of_eq gq15.symm)
    have Zs := Nat.le_trans Zs E15.1
    have E_b15 := A15
    have F_entries_b15 : Fld Z h15 b15 "com/example/surrogate/surrogate/index/Entries" "entries" "[I" .null := D15 (Or.inl (hw _ (List.mem_of_getElem? (i := 11) rfl))) (ty := (.array .int)) (by decide)
    have F_size_b15 : Fld Z h15 b15 "com/example/surrogate/surrogate/index/Entries" "size" "I" (.int (0 : Int32)) := D15 (Or.inl (hw _ (List.mem_of_getElem? (i := 18) rfl))) (ty := .int) (by decide)
    refine own_by (B := T15.setTop (mkF m 15 #[.val (.int i0), .val (.int i1), .val (.int i2), .val (.int i3), .val (.int i4), .val (.int i5), .val (.int (Int32.ofNat cap)), .val (.int (2 : Int32)), .unset, .unset, .unset, .unset] [(.ref b15)])) st15 ?_
    refine own_by (B := T15.setTop (mkF m 16 #[.val (.int i0), .val (.int i1), .val (.int i2), .val (.int i3), .val (.int i4), .val (.int i5), .val (.int (Int32.ofNat cap)), .val (.int (2 : Int32)), .unset, .unset, .unset, .unset] [(.ref b15), (.ref b15)])) (fun t k => XS.dup X15.here hx rfl (hb hby at_15) rfl rfl k) ?_
    refine own_by (B := T15.setTop (mkF m 18 #[.val (.int i0), .val (.int i1), .val (.int i2), .val (.int i3), .val (.int i4), .val (.int i5), .val (.int (Int32.ofNat cap)), .val (.int (2 : Int32)), .unset, .unset, .unset, .unset] [(.int (Int32.ofNat cap)), (.ref b15), (.ref b15)])) (fun t k => XS.iload X15.here hx rfl (hb hby at_16) rfl k) ?_
    obtain ⟨_, _, ⟨T16, L16, k16, n16⟩, -, X16, ⟨Lc16, hQ16, l16, y16, z16⟩, st16⟩ := X15.specialBack hx (y := (⟨"com/example/surrogate/surrogate/index/Entries", "<init>", "(I)V"⟩ : MethodName)) rfl hown (mvT hZ (hw _ (List.mem_of_getElem? (i := 3) rfl))) (mvT hZ (hw _ (List.mem_of_getElem? (i := 4) rfl))) (mvT hZ (hw _ (List.mem_of_getElem? (i := 5) rfl))) (by decide) (backOf (W := 1) (rmI l Z a0 hw [] b15 cap h15 n0 Zs E_b15 F_size_b15 F_entries_b15 g_b15 hcap) hZ (hw _ (List.mem_of_getElem? (i := 5) rfl)) (hw _ (List.mem_of_getElem? (i := 2) rfl)) (by decide) (by decide)) (g := (mkF m 18 #[.val (.int i0), .val (.int i1), .val (.int i2), .val (.int i3), .val (.int i4), .val (.int i5), .val (.int (Int32.ofNat cap)), .val (.int (2 : Int32)), .unset, .unset, .unset, .unset] [(.int (Int32.ofNat cap)), (.ref b15), (.ref b15)])) rfl (by rw [hml]; rfl) (Steps.refl _) (a := b15) (argsL := [(.int (Int32.ofNat cap))]) (rest := [(.ref b15)]) (lenOf own_pd2 rfl) rfl (by show 2 * 0 + _ ≤ _; exact Nat.le_of_eq rfl) (hb hby at_18) (fun _ _ => ⟨rfl, e15, (by decide : 1 + 1 ≤ _), (by decide : 2 + 6 ≤ _)⟩)
    dsimp only [Pt.U, Pt.locs, Pt.cells, Pt.slots] at X16 l16 y16 z16 st16 hQ16
    subst l16 y16 z16
    obtain ⟨rfl, Nq16, Kc16, Fs16, b16, f16, g_b16, ne_b15_b16, Fe16, Vc16, hz16⟩ := hQ16
    have Nf := Fr.app Nf Nq16
    have E_b15 := E_b15.keep Kc16
    have Zs := Nat.le_trans Zs Kc16.1
    have F_size_b15 := Fs16
    have F_entries_b15 := Fe16
    have V_b16 := Vc16
    have hint16 : ∀ i, i < 2 * cap → ∃ x, f16 i = .int x := fun i _ => ⟨_, hz16 i⟩
    refine own_by (B := T16.setTop (mkF m 21 #[.val (.int i0), .val (.int i1), .val (.int i2), .val (.int i3), .val (.int i4), .val (.int i5), .val (.int (Int32.ofNat cap)), .val (.int (2 : Int32)), .unset, .unset, .unset, .unset] [(.ref b15)])) (fun t k => st16.trans k) ?_
    refine own_by (B := T16.setTop (mkF m 23 #[.val (.int i0), .val (.int i1), .val (.int i2), .val (.int i3), .val (.int i4), .val (.int i5), .val (.int (Int32.ofNat cap)), .val (.int (2 : Int32)), .val (.ref b15), .unset, .unset, .unset] [])) (fun t k => XS.astore X16.here hx rfl (hb hby at_21) rfl rfl (l' := #[.val (.int i0), .val (.int i1), .val (.int i2), .val (.int i3), .val (.int i4), .val (.int i5), .val (.int (Int32.ofNat cap)), .val (.int (2 : Int32)), .val (.ref b15), .unset, .unset, .unset]) rfl k) ?_
    refine own_by (B := T16.setTop (mkF m 25 #[.val (.int i0), .val (.int i1), .val (.int i2), .val (.int i3), .val (.int i4), .val (.int i5), .val (.int (Int32.ofNat cap)), .val (.int (2 : Int32)), .val (.ref b15), .unset, .unset, .unset] [(.int (2 : Int32))])) (fun t k => XS.iload X16.here hx rfl (hb hby at_23) rfl k) ?_
    refine own_by (B := T16.setTop (mkF m 28 #[.val (.int i0), .val (.int i1), .val (.int i2), .val (.int i3), .val (.int i4), .val (.int i5), .val (.int (Int32.ofNat cap)), .val (.int (2 : Int32)), .val (.ref b15), .unset, .unset, .unset] [])) (fun t k => XS.ifNo X16.here hx rfl (hb hby at_25) rfl ((if0 _ _).trans (tlt (by decide)).2.2.2) k) ?_
    refine own_by (B := T16.setTop (mkF m 30 #[.val (.int i0), .val (.int i1), .val (.int i2), .val (.int i3), .val (.int i4), .val (.int i5), .val (.int (Int32.ofNat cap)), .val (.int (2 : Int32)), .val (.ref b15), .unset, .unset, .unset] [(.ref b15)])) (fun t k => XS.aload X16.here hx rfl (hb hby at_28) rfl rfl k) ?_
    refine own_by (B := T16.setTop (mkF m 31 #[.val (.int i0), .val (.int i1), .val (.int i2), .val (.int i3), .val (.int i4), .val (.int i5), .val (.int (Int32.ofNat cap)), .val (.int (2 : Int32)), .val (.ref b15), .unset, .unset, .unset] [(.int i1), (.ref b15)])) (fun t k => XS.iloadN X16.here hx rfl (hb hby at_30) rfl k) ?_
    refine own_by (B := T16.setTop (mkF m 33 #[.val (.int i0), .val (.int i1), .val (.int i2), .val (.int i3), .val (.int i4), .val (.int i5), .val (.int (Int32.ofNat cap)), .val (.int (2 : Int32)), .val (.ref b15), .unset, .unset, .unset] [(.int i5), (.int i1), (.ref b15)])) (fun t k => XS.iload X16.here hx rfl (hb hby at_31) rfl k) ?_
    obtain ⟨cq17, kq17, q17a, q17b, q17c⟩ := isOf hZ rfl E_b15
    obtain ⟨_, _, ⟨T17, L17, k17, n17⟩, -, X17, ⟨Lc17, hQ17, l17, y17, z17⟩, st17⟩ := X16.virtualBack hx (y := (⟨"com/example/surrogate/surrogate/index/Entries", "add", "(II)V"⟩ : MethodName)) (z := (⟨"com/example/surrogate/surrogate/index/Entries", "add", "(II)V"⟩ : MethodName)) hown (mvT hZ (hw _ (List.mem_of_getElem? (i := 19) rfl))) (mvT hZ (hw _ (List.mem_of_getElem? (i := 20) rfl))) (notFace_of_selects (args := #[]) (mvT hZ (hw _ (List.mem_of_getElem? (i := 22) rfl)))) (mvT hZ (hw _ (List.mem_of_getElem? (i := 22) rfl))) (mvT hZ (hw _ (List.mem_of_getElem? (i := 21) rfl))) (by decide) (backOf (W := 0) (rmA l Z a0 hw [] b15 i1 i5 b16 0 (2 * cap) f16 T16.heap n0 Zs E_b15 F_size_b15 F_entries_b15 V_b16 hint16 g_b15 g_b16 ne_b15_b16 (by omega) (by omega) (by omega) (by omega)) hZ (hw _ (List.mem_of_getElem? (i := 23) rfl)) (hw _ (List.mem_of_getElem? (i := 2) rfl)) (by decide) (by decide)) q17a q17c (g := (mkF m 33 #[.val (.int i0), .val (.int i1), .val (.int i2), .val (.int i3), .val (.int i4), .val (.int i5), .val (.int (Int32.ofNat cap)), .val (.int (2 : Int32)), .val (.ref b15), .unset, .unset, .unset] [(.int i5), (.int i1), (.ref b15)])) rfl (by rw [hml]; rfl) (Steps.refl _) (argsL := [(.int i1), (.int i5)]) (rest := []) (lenOf own_pd4 rfl) rfl (by show 2 * 0 + _ ≤ _; exact Nat.le_of_eq rfl) (hb hby at_33) (fun _ _ => ⟨rfl, rfl, (by decide : 2 + 1 ≤ _), (by decide : 8 + 12 ≤ _)⟩)
    dsimp only [Pt.U, Pt.locs, Pt.cells, Pt.slots] at X17 l17 y17 z17 st17 hQ17
    subst l17 y17 z17
    obtain ⟨rfl, Nq17, Kc17, Fs17, b17, mz17, f17, g_b17, ne_b15_b17, Fe17, Vc17, hma17, hmb17, hmc17, hne17, hnf17, hol17, hin17⟩ := hQ17
    have Nf := Fr.app Nf Nq17
    have E_b15 := E_b15.keep Kc17
    have Zs := Nat.le_trans Zs Kc17.1
    have F_size_b15 := Fs17
    have F_entries_b15 := Fe17
    have V_b17 := Vc17
    have hA17_0 : f17 0 = .int i1 := hne17
    have hB17_0 : f17 1 = .int i5 := hnf17
    refine own_by (B := T17.setTop (mkF m 36 #[.val (.int i0), .val (.int i1), .val (.int i2), .val (.int i3), .val (.int i4), .val (.int i5), .val (.int (Int32.ofNat cap)), .val (.int (2 : Int32)), .val (.ref b15), .unset, .unset, .unset] [])) (fun t k => st17.trans k) ?_
    refine own_by (B := T17.setTop (mkF m 38 #[.val (.int i0), .val (.int i1), .val (.int i2), .val (.int i3), .val (.int i4), .val (.int i5), .val (.int (Int32.ofNat cap)), .val (.int (2 : Int32)), .val (.ref b15), .unset, .unset, .unset] [(.int (2 : Int32))])) (fun t k => XS.iload X17.here hx rfl (hb hby at_36) rfl k) ?_
    refine own_by (B := T17.setTop (mkF m 39 #[.val (.int i0), .val (.int i1), .val (.int i2), .val (.int i3), .val (.int i4), .val (.int i5), .val (.int (Int32.ofNat cap)), .val (.int (2 : Int32)), .val (.ref b15), .unset, .unset, .unset] [(.int (1 : Int32)), (.int (2 : Int32))])) (fun t k => XS.iconst X17.here hx rfl (hb hby at_38) k) ?_
    refine own_by (B := T17.setTop (mkF m 42 #[.val (.int i0), .val (.int i1), .val (.int i2), .val (.int i3), .val (.int i4), .val (.int i5), .val (.int (Int32.ofNat cap)), .val (.int (2 : Int32)), .val (.ref b15), .unset, .unset, .unset] [])) (fun t k => XS.icmpNo X17.here hx rfl (hb hby at_39) rfl (tlt (by decide)).2.2.2 k) ?_
    refine own_by (B := T17.setTop (mkF m 44 #[.val (.int i0), .val (.int i1), .val (.int i2), .val (.int i3), .val (.int i4), .val (.int i5), .val (.int (Int32.ofNat cap)), .val (.int (2 : Int32)), .val (.ref b15), .unset, .unset, .unset] [(.ref b15)])) (fun t k => XS.aload X17.here hx rfl (hb hby at_42) rfl rfl k) ?_
    refine own_by (B := T17.setTop (mkF m 45 #[.val (.int i0), .val (.int i1), .val (.int i2), .val (.int i3), .val (.int i4), .val (.int i5), .val (.int (Int32.ofNat cap)), .val (.int (2 : Int32)), .val (.ref b15), .unset, .unset, .unset] [(.int i2), (.ref b15)])) (fun t k => XS.iloadN X17.here hx rfl (hb hby at_44) rfl k) ?_
    refine own_by (B := T17.setTop (mkF m 47 #[.val (.int i0), .val (.int i1), .val (.int i2), .val (.int i3), .val (.int i4), .val (.int i5), .val (.int (Int32.ofNat cap)), .val (.int (2 : Int32)), .val (.ref b15), .unset, .unset, .unset] [(.int i5), (.int i2), (.ref b15)])) (fun t k => XS.iload X17.here hx rfl (hb hby at_45) rfl k) ?_
    refine own_by (B := T17.setTop (mkF m 48 #[.val (.int i0), .val (.int i1), .val (.int i2), .val (.int i3), .val (.int i4), .val (.int i5), .val (.int (Int32.ofNat cap)), .val (.int (2 : Int32)), .val (.ref b15), .unset, .unset, .unset] [(.int (1 : Int32)), (.int i5), (.int i2), (.ref b15)])) (fun t k => XS.iconst X17.here hx rfl (hb hby at_47) k) ?_
    refine own_by (B := T17.setTop (mkF m 49 #[.val (.int i0), .val (.int i1), .val (.int i2), .val (.int i3), .val (.int i4), .val (.int i5), .val (.int (Int32.ofNat cap)), .val (.int (2 : Int32)), .val (.ref b15), .unset, .unset, .unset] [(.int (i5 + (1 : Int32))), (.int i2), (.ref b15)])) (fun t k => XS.iadd X17.here hx rfl (hb hby at_48) rfl k) ?_
    obtain ⟨cq18, kq18, q18a, q18b, q18c⟩ := isOf hZ rfl E_b15
    obtain ⟨_, _, ⟨T18, L18, k18, n18⟩, -, X18, ⟨Lc18, hQ18, l18, y18, z18⟩, st18⟩ := X17.virtualBack hx (y := (⟨"com/example/surrogate/surrogate/index/Entries", "add", "(II)V"⟩ : MethodName)) (z := (⟨"com/example/surrogate/surrogate/index/Entries", "add", "(II)V"⟩ : MethodName)) hown (mvT hZ (hw _ (List.mem_of_getElem? (i := 19) rfl))) (mvT hZ (hw _ (List.mem_of_getElem? (i := 20) rfl))) (notFace_of_selects (args := #[]) (mvT hZ (hw _ (List.mem_of_getElem? (i := 22) rfl)))) (mvT hZ (hw _ (List.mem_of_getElem? (i := 22) rfl))) (mvT hZ (hw _ (List.mem_of_getElem? (i := 21) rfl))) (by decide) (backOf (W := 0) (rmA l Z a0 hw [] b15 i2 (i5 + (1 : Int32)) b17 1 mz17 f17 T17.heap n0 Zs E_b15 F_size_b15 F_entries_b15 V_b17 hin17 g_b15 g_b17 ne_b15_b17 (by omega) (by omega) (by omega) (by omega)) hZ (hw _ (List.mem_of_getElem? (i := 23) rfl)) (hw _ (List.mem_of_getElem? (i := 2) rfl)) (by decide) (by decide)) q18a q18c (g := (mkF m 49 #[.val (.int i0), .val (.int i1), .val (.int i2), .val (.int i3), .val (.int i4), .val (.int i5), .val (.int (Int32.ofNat cap)), .val (.int (2 : Int32)), .val (.ref b15), .unset, .unset, .unset] [(.int (i5 + (1 : Int32))), (.int i2), (.ref b15)])) rfl (by rw [hml]; rfl) (Steps.refl _) (argsL := [(.int i2), (.int (i5 + (1 : Int32)))]) (rest := []) (lenOf own_pd4 rfl) rfl (by show 2 * 0 + _ ≤ _; exact Nat.le_of_eq rfl) (hb hby at_49) (fun _ _ => ⟨rfl, rfl, (by decide : 3 + 1 ≤ _), (by decide : 20 + 12 ≤ _)⟩)
    dsimp only [Pt.U, Pt.locs, Pt.cells, Pt.slots] at X18 l18 y18 z18 st18 hQ18
    subst l18 y18 z18
    obtain ⟨rfl, Nq18, Kc18, Fs18, b18, mz18, f18, g_b18, ne_b15_b18, Fe18, Vc18, hma18, hmb18, hmc18, hne18, hnf18, hol18, hin18⟩ := hQ18
    have Nf := Fr.app Nf Nq18
    have E_b15 := E_b15.keep Kc18
    have Zs := Nat.le_trans Zs Kc18.1
    have F_size_b15 := Fs18
    have F_entries_b15 := Fe18
    have V_b18 := Vc18
    have hA18_0 : f18 0 = .int i1 := (hol18 0 (by omega)).trans hA17_0
    have hB18_0 : f18 1 = .int i5 := (hol18 1 (by omega)).trans hB17_0
    have hA18_1 : f18 2 = .int i2 := hne18
    have hB18_1 : f18 3 = .int (i5 + (1 : Int32)) := hnf18
    refine own_by (B := T18.setTop (mkF m 52 #[.val (.int i0), .val (.int i1), .val (.int i2), .val (.int i3), .val (.int i4), .val (.int i5), .val (.int (Int32.ofNat cap)), .val (.int (2 : Int32)), .val (.ref b15), .unset, .unset, .unset] [])) (fun t k => st18.trans k) ?_
    refine own_by (B := T18.setTop (mkF m 54 #[.val (.int i0), .val (.int i1), .val (.int i2), .val (.int i3), .val (.int i4), .val (.int i5), .val (.int (Int32.ofNat cap)), .val (.int (2 : Int32)), .val (.ref b15), .unset, .unset, .unset] [(.int (2 : Int32))])) (fun t k => XS.iload X18.here hx rfl (hb hby at_52) rfl k) ?_
    refine own_by (B := T18.setTop (mkF m 55 #[.val (.int i0), .val (.int i1), .val (.int i2), .val (.int i3), .val (.int i4), .val (.int i5), .val (.int (Int32.ofNat cap)), .val (.int (2 : Int32)), .val (.ref b15), .unset, .unset, .unset] [(.int (2 : Int32)), (.int (2 : Int32))])) (fun t k => XS.iconst X18.here hx rfl (hb hby at_54) k) ?_
    refine own_by (B := T18.setTop (mkF m 68 #[.val (.int i0), .val (.int i1), .val (.int i2), .val (.int i3), .val (.int i4), .val (.int i5), .val (.int (Int32.ofNat cap)), .val (.int (2 : Int32)), .val (.ref b15), .unset, .unset, .unset] [])) (fun t k => XS.icmpYes X18.here hx rfl (pc0 := 55) (pc' := 68) rfl (hb hby at_55) rfl (flt (by decide)).2.2.2 (by decide) (by decide) k) ?_
    refine own_by (B := T18.setTop (mkF m 70 #[.val (.int i0), .val (.int i1), .val (.int i2), .val (.int i3), .val (.int i4), .val (.int i5), .val (.int (Int32.ofNat cap)), .val (.int (2 : Int32)), .val (.ref b15), .unset, .unset, .unset] [(.int (2 : Int32))])) (fun t k => XS.iload X18.here hx rfl (hb hby at_68) rfl k) ?_
    refine own_by (B := T18.setTop (mkF m 71 #[.val (.int i0), .val (.int i1), .val (.int i2), .val (.int i3), .val (.int i4), .val (.int i5), .val (.int (Int32.ofNat cap)), .val (.int (2 : Int32)), .val (.ref b15), .unset, .unset, .unset] [(.int (3 : Int32)), (.int (2 : Int32))])) (fun t k => XS.iconst X18.here hx rfl (hb hby at_70) k) ?_
    refine own_by (B := T18.setTop (mkF m 85 #[.val (.int i0), .val (.int i1), .val (.int i2), .val (.int i3), .val (.int i4), .val (.int i5), .val (.int (Int32.ofNat cap)), .val (.int (2 : Int32)), .val (.ref b15), .unset, .unset, .unset] [])) (fun t k => XS.icmpYes X18.here hx rfl (pc0 := 71) (pc' := 85) rfl (hb hby at_71) rfl (flt (by decide)).2.2.2 (by decide) (by decide) k) ?_
    refine own_by (B := T18.setTop (mkF m 87 #[.val (.int i0), .val (.int i1), .val (.int i2), .val (.int i3), .val (.int i4), .val (.int i5), .val (.int (Int32.ofNat cap)), .val (.int (2 : Int32)), .val (.ref b15), .unset, .unset, .unset] [(.ref b15)])) (fun t k => XS.aload X18.here hx rfl (hb hby at_85) rfl rfl k) ?_
    obtain ⟨cq19, kq19, q19a, q19b, q19c⟩ := isOf hZ rfl E_b15
    obtain ⟨_, _, ⟨T19, L19, k19, n19⟩, -, X19, ⟨Lc19, hQ19, l19, y19, z19⟩, st19⟩ := X18.virtualBack hx (y := (⟨"com/example/surrogate/surrogate/index/Entries", "numbers", "()[I"⟩ : MethodName)) (z := (⟨"com/example/surrogate/surrogate/index/Entries", "numbers", "()[I"⟩ : MethodName)) hown (mvT hZ (hw _ (List.mem_of_getElem? (i := 12) rfl))) (mvT hZ (hw _ (List.mem_of_getElem? (i := 13) rfl))) (notFace_of_selects (args := #[]) (mvT hZ (hw _ (List.mem_of_getElem? (i := 15) rfl)))) (mvT hZ (hw _ (List.mem_of_getElem? (i := 15) rfl))) (mvT hZ (hw _ (List.mem_of_getElem? (i := 14) rfl))) (by decide) (backOf (W := 0) (rmF2 l Z a0 hw [] b15 b18 mz18 f18 i1 i2 T18.heap n0 Zs F_size_b15 F_entries_b15 V_b18 ne_b15_b18 (by omega) (by omega) hA18_0 hA18_1) hZ (hw _ (List.mem_of_getElem? (i := 16) rfl)) (hw _ (List.mem_of_getElem? (i := 2) rfl)) (by decide) (by decide)) q19a q19c (g := (mkF m 87 #[.val (.int i0), .val (.int i1), .val (.int i2), .val (.int i3), .val (.int i4), .val (.int i5), .val (.int (Int32.ofNat cap)), .val (.int (2 : Int32)), .val (.ref b15), .unset, .unset, .unset] [(.ref b15)])) rfl (by rw [hml]; rfl) (Steps.refl _) (argsL := []) (rest := []) (lenOf own_pd3 rfl) rfl (by show 2 * 0 + _ ≤ _; exact Nat.le_of_eq rfl) (hb hby at_87) (fun _ _ => ⟨rfl, rfl, (by decide : 4 + 1 ≤ _), (by decide : 32 + 2 ≤ _)⟩)
    dsimp only [Pt.U, Pt.locs, Pt.cells, Pt.slots] at X19 l19 y19 z19 st19 hQ19
    subst l19 y19 z19
    obtain ⟨rfl, Nq19, Kc19, g19, Vc19, hg19_0, hg19_1⟩ := hQ19
    have Nf := Fr.app Nf Nq19
    obtain ⟨b19, gq19⟩ : ∃ z, z = T18.heap.size := ⟨_, rfl⟩
    rw [← gq19] at Vc19 st19
    have ne_b15_b19 : b15 ≠ b19 := Nat.ne_of_lt (Nat.lt_of_lt_of_le E_b15.lt (Nat.le_of_eq gq19.symm))
    have ne_b18_b19 : b18 ≠ b19 := Nat.ne_of_lt (Nat.lt_of_lt_of_le V_b18.lt (Nat.le_of_eq gq19.symm))
    have g_b19 : n0 ≤ b19 := Nat.le_trans Zs (Nat.le_of_eq gq19.symm)
    have E_b15 := E_b15.keep Kc19
    have F_size_b15 := F_size_b15.keep Kc19 nin0
    have F_entries_b15 := F_entries_b15.keep Kc19 nin0
    have V_b18 := V_b18.keep Kc19 nin0
    have Zs := Nat.le_trans Zs Kc19.1
    have V_b19 := Vc19
    refine own_by (B := T19.setTop (mkF m 90 #[.val (.int i0), .val (.int i1), .val (.int i2), .val (.int i3), .val (.int i4), .val (.int i5), .val (.int (Int32.ofNat cap)), .val (.int (2 : Int32)), .val (.ref b15), .unset, .unset, .unset] [(.ref b19)])) (fun t k => st19.trans k) ?_
    refine own_by (B := T19.setTop (mkF m 92 #[.val (.int i0), .val (.int i1), .val (.int i2), .val (.int i3), .val (.int i4), .val (.int i5), .val (.int (Int32.ofNat cap)), .val (.int (2 : Int32)), .val (.ref b15), .val (.ref b19), .unset, .unset] [])) (fun t k => XS.astore X19.here hx rfl (hb hby at_90) rfl rfl (l' := #[.val (.int i0), .val (.int i1), .val (.int i2), .val (.int i3), .val (.int i4), .val (.int i5), .val (.int (Int32.ofNat cap)), .val (.int (2 : Int32)), .val (.ref b15), .val (.ref b19), .unset, .unset]) rfl k) ?_
    refine own_by (B := T19.setTop (mkF m 94 #[.val (.int i0), .val (.int i1), .val (.int i2), .val (.int i3), .val (.int i4), .val (.int i5), .val (.int (Int32.ofNat cap)), .val (.int (2 : Int32)), .val (.ref b15), .val (.ref b19), .unset, .unset] [(.ref b19)])) (fun t k => XS.aload X19.here hx rfl (hb hby at_92) rfl rfl k) ?_
    obtain ⟨cl20, Ar20, Sz20, Ng20, -⟩ := id V_b19
    refine own_by (B := T19.setTop (mkF m 95 #[.val (.int i0), .val (.int i1), .val (.int i2), .val (.int i3), .val (.int i4), .val (.int i5), .val (.int (Int32.ofNat cap)), .val (.int (2 : Int32)), .val (.ref b15), .val (.ref b19), .unset, .unset] [(.int (2 : Int32))])) (fun t k => X19.arraylength hx Ar20.1 (State.isArrayOf_alike hZ.alike Ar20.2.1) (g := (mkF m 94 #[.val (.int i0), .val (.int i1), .val (.int i2), .val (.int i3), .val (.int i4), .val (.int i5), .val (.int (Int32.ofNat cap)), .val (.int (2 : Int32)), .val (.ref b15), .val (.ref b19), .unset, .unset] [(.ref b19)])) rfl rfl (hb hby at_94) _ (by rw [len_of Sz20 Ng20]; exact k)) ?_
    refine own_by (B := T19.setTop (mkF m 97 #[.val (.int i0), .val (.int i1), .val (.int i2), .val (.int i3), .val (.int i4), .val (.int i5), .val (.int (Int32.ofNat cap)), .val (.int (2 : Int32)), .val (.ref b15), .val (.ref b19), .unset, .unset] [(.int (2 : Int32)), (.int (2 : Int32))])) (fun t k => XS.iload X19.here hx rfl (hb hby at_95) rfl k) ?_
    refine own_by (B := T19.setTop (mkF m 102 #[.val (.int i0), .val (.int i1), .val (.int i2), .val (.int i3), .val (.int i4), .val (.int i5), .val (.int (Int32.ofNat cap)), .val (.int (2 : Int32)), .val (.ref b15), .val (.ref b19), .unset, .unset] [])) (fun t k => XS.icmpYes X19.here hx rfl (pc0 := 97) (pc' := 102) rfl (hb hby at_97) rfl (teq (by decide)).1 (by decide) (by decide) k) ?_
    refine own_by (B := T19.setTop (mkF m 103 #[.val (.int i0), .val (.int i1), .val (.int i2), .val (.int i3), .val (.int i4), .val (.int i5), .val (.int (Int32.ofNat cap)), .val (.int (2 : Int32)), .val (.ref b15), .val (.ref b19), .unset, .unset] [(.int (1 : Int32))])) (fun t k => XS.iconst X19.here hx rfl (hb hby at_102) k) ?_
    refine own_by (B := T19.setTop (mkF m 105 #[.val (.int i0), .val (.int i1), .val (.int i2), .val (.int i3), .val (.int i4), .val (.int i5), .val (.int (Int32.ofNat cap)), .val (.int (2 : Int32)), .val (.ref b15), .val (.ref b19), .val (.int (1 : Int32)), .unset] [])) (fun t k => XS.istore X19.here hx rfl (hb hby at_103) rfl (l' := #[.val (.int i0), .val (.int i1), .val (.int i2), .val (.int i3), .val (.int i4), .val (.int i5), .val (.int (Int32.ofNat cap)), .val (.int (2 : Int32)), .val (.ref b15), .val (.ref b19), .val (.int (1 : Int32)), .unset]) rfl k) ?_
    refine own_by (B := T19.setTop (mkF m 107 #[.val (.int i0), .val (.int i1), .val (.int i2), .val (.int i3), .val (.int i4), .val (.int i5), .val (.int (Int32.ofNat cap)), .val (.int (2 : Int32)), .val (.ref b15), .val (.ref b19), .val (.int (1 : Int32)), .unset] [(.int (2 : Int32))])) (fun t k => XS.iload X19.here hx rfl (hb hby at_105) rfl k) ?_
    refine own_by (B := T19.setTop (mkF m 110 #[.val (.int i0), .val (.int i1), .val (.int i2), .val (.int i3), .val (.int i4), .val (.int i5), .val (.int (Int32.ofNat cap)), .val (.int (2 : Int32)), .val (.ref b15), .val (.ref b19), .val (.int (1 : Int32)), .unset] [])) (fun t k => XS.ifNo X19.here hx rfl (hb hby at_107) rfl ((if0 _ _).trans (tlt (by decide)).2.2.2) k) ?_
    refine own_by (B := T19.setTop (mkF m 112 #[.val (.int i0), .val (.int i1), .val (.int i2), .val (.int i3), .val (.int i4), .val (.int i5), .val (.int (Int32.ofNat cap)), .val (.int (2 : Int32)), .val (.ref b15), .val (.ref b19), .val (.int (1 : Int32)), .unset] [(.int (1 : Int32))])) (fun t k => XS.iload X19.here hx rfl (hb hby at_110) rfl k) ?_
    refine own_by (B := T19.setTop (mkF m 115 #[.val (.int i0), .val (.int i1), .val (.int i2), .val (.int i3), .val (.int i4), .val (.int i5), .val (.int (Int32.ofNat cap)), .val (.int (2 : Int32)), .val (.ref b15), .val (.ref b19), .val (.int (1 : Int32)), .unset] [])) (fun t k => XS.ifNo X19.here hx rfl (hb hby at_112) rfl ((if0 _ _).trans (feq (by decide)).1) k) ?_
    refine own_by (B := T19.setTop (mkF m 117 #[.val (.int i0), .val (.int i1), .val (.int i2), .val (.int i3), .val (.int i4), .val (.int i5), .val (.int (Int32.ofNat cap)), .val (.int (2 : Int32)), .val (.ref b15), .val (.ref b19), .val (.int (1 : Int32)), .unset] [(.ref b19)])) (fun t k => XS.aload X19.here hx rfl (hb hby at_115) rfl rfl k) ?_
    refine own_by (B := T19.setTop (mkF m 118 #[.val (.int i0), .val (.int i1), .val (.int i2), .val (.int i3), .val (.int i4), .val (.int i5), .val (.int (Int32.ofNat cap)), .val (.int (2 : Int32)), .val (.ref b15), .val (.ref b19), .val (.int (1 : Int32)), .unset] [(.int (0 : Int32)), (.ref b19)])) (fun t k => XS.iconst X19.here hx rfl (hb hby at_117) k) ?_
    obtain ⟨cl21, Ar21, hin21, hat21⟩ := V_b19.at (j := (0 : Int32)) ⟨by decide, by decide⟩
    have hat21 := hat21.trans (congrArg some (show _ = (.int i1) from hg19_0))
    refine own_by (B := T19.setTop (mkF m 119 #[.val (.int i0), .val (.int i1), .val (.int i2), .val (.int i3), .val (.int i4), .val (.int i5), .val (.int (Int32.ofNat cap)), .val (.int (2 : Int32)), .val (.ref b15), .val (.ref b19), .val (.int (1 : Int32)), .unset] [(.int i1)])) (fun t k => X19.iaload hx (j := (0 : Int32)) (v := (.int i1)) Ar21.1 (State.isArrayOf_alike hZ.alike Ar21.2.1) Ar21.2.2 hin21 hat21 (g := (mkF m 118 #[.val (.int i0), .val (.int i1), .val (.int i2), .val (.int i3), .val (.int i4), .val (.int i5), .val (.int (Int32.ofNat cap)), .val (.int (2 : Int32)), .val (.ref b15), .val (.ref b19), .val (.int (1 : Int32)), .unset] [(.int (0 : Int32)), (.ref b19)])) rfl rfl (hb hby at_118) _ k) ?_
    refine own_by (B := T19.setTop (mkF m 120 #[.val (.int i0), .val (.int i1), .val (.int i2), .val (.int i3), .val (.int i4), .val (.int i5), .val (.int (Int32.ofNat cap)), .val (.int (2 : Int32)), .val (.ref b15), .val (.ref b19), .val (.int (1 : Int32)), .unset] [(.int i1), (.int i1)])) (fun t k => XS.iloadN X19.here hx rfl (hb hby at_119) rfl k) ?_
    refine own_by (B := T19.setTop (mkF m 123 #[.val (.int i0), .val (.int i1), .val (.int i2), .val (.int i3), .val (.int i4), .val (.int i5), .val (.int (Int32.ofNat cap)), .val (.int (2 : Int32)), .val (.ref b15), .val (.ref b19), .val (.int (1 : Int32)), .unset] [])) (fun t k => XS.icmpNo X19.here hx rfl (hb hby at_120) rfl (teq rfl).2 k) ?_
    refine own_by (B := T19.setTop (mkF m 124 #[.val (.int i0), .val (.int i1), .val (.int i2), .val (.int i3), .val (.int i4), .val (.int i5), .val (.int (Int32.ofNat cap)), .val (.int (2 : Int32)), .val (.ref b15), .val (.ref b19), .val (.int (1 : Int32)), .unset] [(.int (1 : Int32))])) (fun t k => XS.iconst X19.here hx rfl (hb hby at_123) k) ?_
    refine own_by (B := T19.setTop (mkF m 128 #[.val (.int i0), .val (.int i1), .val (.int i2), .val (.int i3), .val (.int i4), .val (.int i5), .val (.int (Int32.ofNat cap)), .val (.int (2 : Int32)), .val (.ref b15), .val (.ref b19), .val (.int (1 : Int32)), .unset] [(.int (1 : Int32))])) (fun t k => XS.goto X19.here hx rfl (pc0 := 124) (pc' := 128) rfl (hb hby at_124) (by decide) (by decide) k) ?_
    refine own_by (B := T19.setTop (mkF m 130 #[.val (.int i0), .val (.int i1), .val (.int i2), .val (.int i3), .val (.int i4), .val (.int i5), .val (.int (Int32.ofNat cap)), .val (.int (2 : Int32)), .val (.ref b15), .val (.ref b19), .val (.int (1 : Int32)), .unset] [])) (fun t k => XS.istore X19.here hx rfl (hb hby at_128) rfl (l' := #[.val (.int i0), .val (.int i1), .val (.int i2), .val (.int i3), .val (.int i4), .val (.int i5), .val (.int (Int32.ofNat cap)), .val (.int (2 : Int32)), .val (.ref b15), .val (.ref b19), .val (.int (1 : Int32)), .unset]) rfl k) ?_
    refine own_by (B := T19.setTop (mkF m 132 #[.val (.int i0), .val (.int i1), .val (.int i2), .val (.int i3), .val (.int i4), .val (.int i5), .val (.int (Int32.ofNat cap)), .val (.int (2 : Int32)), .val (.ref b15), .val (.ref b19), .val (.int (1 : Int32)), .unset] [(.int (2 : Int32))])) (fun t k => XS.iload X19.here hx rfl (hb hby at_130) rfl k) ?_
    refine own_by (B := T19.setTop (mkF m 133 #[.val (.int i0), .val (.int i1), .val (.int i2), .val (.int i3), .val (.int i4), .val (.int i5), .val (.int (Int32.ofNat cap)), .val (.int (2 : Int32)), .val (.ref b15), .val (.ref b19), .val (.int (1 : Int32)), .unset] [(.int (1 : Int32)), (.int (2 : Int32))])) (fun t k => XS.iconst X19.here hx rfl (hb hby at_132) k) ?_
    refine own_by (B := T19.setTop (mkF m 136 #[.val (.int i0), .val (.int i1), .val (.int i2), .val (.int i3), .val (.int i4), .val (.int i5), .val (.int (Int32.ofNat cap)), .val (.int (2 : Int32)), .val (.ref b15), .val (.ref b19), .val (.int (1 : Int32)), .unset] [])) (fun t k => XS.icmpNo X19.here hx rfl (hb hby at_133) rfl (tlt (by decide)).2.2.2 k) ?_
    refine own_by (B := T19.setTop (mkF m 138 #[.val (.int i0), .val (.int i1), .val (.int i2), .val (.int i3), .val (.int i4), .val (.int i5), .val (.int (Int32.ofNat cap)), .val (.int (2 : Int32)), .val (.ref b15), .val (.ref b19), .val (.int (1 : Int32)), .unset] [(.int (1 : Int32))])) (fun t k => XS.iload X19.here hx rfl (hb hby at_136) rfl k) ?_
    refine own_by (B := T19.setTop (mkF m 141 #[.val (.int i0), .val (.int i1), .val (.int i2), .val (.int i3), .val (.int i4), .val (.int i5), .val (.int (Int32.ofNat cap)), .val (.int (2 : Int32)), .val (.ref b15), .val (.ref b19), .val (.int (1 : Int32)), .unset] [])) (fun t k => XS.ifNo X19.here hx rfl (hb hby at_138) rfl ((if0 _ _).trans (feq (by decide)).1) k) ?_
    refine own_by (B := T19.setTop (mkF m 143 #[.val (.int i0), .val (.int i1), .val (.int i2), .val (.int i3), .val (.int i4), .val (.int i5), .val (.int (Int32.ofNat cap)), .val (.int (2 : Int32)), .val (.ref b15), .val (.ref b19), .val (.int (1 : Int32)), .unset] [(.ref b19)])) (fun t k => XS.aload X19.here hx rfl (hb hby at_141) rfl rfl k) ?_
    refine own_by (B := T19.setTop (mkF m 144 #[.val (.int i0), .val (.int i1), .val (.int i2), .val (.int i3), .val (.int i4), .val (.int i5), .val (.int (Int32.ofNat cap)), .val (.int (2 : Int32)), .val (.ref b15), .val (.ref b19), .val (.int (1 : Int32)), .unset] [(.int (1 : Int32)), (.ref b19)])) (fun t k => XS.iconst X19.here hx rfl (hb hby at_143) k) ?_
    obtain ⟨cl22, Ar22, hin22, hat22⟩ := V_b19.at (j := (1 : Int32)) ⟨by decide, by decide⟩
    have hat22 := hat22.trans (congrArg some (show _ = (.int i2) from hg19_1))
    refine own_by (B := T19.setTop (mkF m 145 #[.val (.int i0), .val (.int i1), .val (.int i2), .val (.int i3), .val (.int i4), .val (.int i5), .val (.int (Int32.ofNat cap)), .val (.int (2 : Int32)), .val (.ref b15), .val (.ref b19), .val (.int (1 : Int32)), .unset] [(.int i2)])) (fun t k => X19.iaload hx (j := (1 : Int32)) (v := (.int i2)) Ar22.1 (State.isArrayOf_alike hZ.alike Ar22.2.1) Ar22.2.2 hin22 hat22 (g := (mkF m 144 #[.val (.int i0), .val (.int i1), .val (.int i2), .val (.int i3), .val (.int i4), .val (.int i5), .val (.int (Int32.ofNat cap)), .val (.int (2 : Int32)), .val (.ref b15), .val (.ref b19), .val (.int (1 : Int32)), .unset] [(.int (1 : Int32)), (.ref b19)])) rfl rfl (hb hby at_144) _ k) ?_
    refine own_by (B := T19.setTop (mkF m 146 #[.val (.int i0), .val (.int i1), .val (.int i2), .val (.int i3), .val (.int i4), .val (.int i5), .val (.int (Int32.ofNat cap)), .val (.int (2 : Int32)), .val (.ref b15), .val (.ref b19), .val (.int (1 : Int32)), .unset] [(.int i2), (.int i2)])) (fun t k => XS.iloadN X19.here hx rfl (hb hby at_145) rfl k) ?_
    refine own_by (B := T19.setTop (mkF m 149 #[.val (.int i0), .val (.int i1), .val (.int i2), .val (.int i3), .val (.int i4), .val (.int i5), .val (.int (Int32.ofNat cap)), .val (.int (2 : Int32)), .val (.ref b15), .val (.ref b19), .val (.int (1 : Int32)), .unset] [])) (fun t k => XS.icmpNo X19.here hx rfl (hb hby at_146) rfl (teq rfl).2 k) ?_
    refine own_by (B := T19.setTop (mkF m 150 #[.val (.int i0), .val (.int i1), .val (.int i2), .val (.int i3), .val (.int i4), .val (.int i5), .val (.int (Int32.ofNat cap)), .val (.int (2 : Int32)), .val (.ref b15), .val (.ref b19), .val (.int (1 : Int32)), .unset] [(.int (1 : Int32))])) (fun t k => XS.iconst X19.here hx rfl (hb hby at_149) k) ?_
    refine own_by (B := T19.setTop (mkF m 154 #[.val (.int i0), .val (.int i1), .val (.int i2), .val (.int i3), .val (.int i4), .val (.int i5), .val (.int (Int32.ofNat cap)), .val (.int (2 : Int32)), .val (.ref b15), .val (.ref b19), .val (.int (1 : Int32)), .unset] [(.int (1 : Int32))])) (fun t k => XS.goto X19.here hx rfl (pc0 := 150) (pc' := 154) rfl (hb hby at_150) (by decide) (by decide) k) ?_
    refine own_by (B := T19.setTop (mkF m 156 #[.val (.int i0), .val (.int i1), .val (.int i2), .val (.int i3), .val (.int i4), .val (.int i5), .val (.int (Int32.ofNat cap)), .val (.int (2 : Int32)), .val (.ref b15), .val (.ref b19), .val (.int (1 : Int32)), .unset] [])) (fun t k => XS.istore X19.here hx rfl (hb hby at_154) rfl (l' := #[.val (.int i0), .val (.int i1), .val (.int i2), .val (.int i3), .val (.int i4), .val (.int i5), .val (.int (Int32.ofNat cap)), .val (.int (2 : Int32)), .val (.ref b15), .val (.ref b19), .val (.int (1 : Int32)), .unset]) rfl k) ?_
    refine own_by (B := T19.setTop (mkF m 158 #[.val (.int i0), .val (.int i1), .val (.int i2), .val (.int i3), .val (.int i4), .val (.int i5), .val (.int (Int32.ofNat cap)), .val (.int (2 : Int32)), .val (.ref b15), .val (.ref b19), .val (.int (1 : Int32)), .unset] [(.int (2 : Int32))])) (fun t k => XS.iload X19.here hx rfl (hb hby at_156) rfl k) ?_
    refine own_by (B := T19.setTop (mkF m 159 #[.val (.int i0), .val (.int i1), .val (.int i2), .val (.int i3), .val (.int i4), .val (.int i5), .val (.int (Int32.ofNat cap)), .val (.int (2 : Int32)), .val (.ref b15), .val (.ref b19), .val (.int (1 : Int32)), .unset] [(.int (2 : Int32)), (.int (2 : Int32))])) (fun t k => XS.iconst X19.here hx rfl (hb hby at_158) k) ?_
    refine own_by (B := T19.setTop (mkF m 182 #[.val (.int i0), .val (.int i1), .val (.int i2), .val (.int i3), .val (.int i4), .val (.int i5), .val (.int (Int32.ofNat cap)), .val (.int (2 : Int32)), .val (.ref b15), .val (.ref b19), .val (.int (1 : Int32)), .unset] [])) (fun t k => XS.icmpYes X19.here hx rfl (pc0 := 159) (pc' := 182) rfl (hb hby at_159) rfl (flt (by decide)).2.2.2 (by decide) (by decide) k) ?_
    refine own_by (B := T19.setTop (mkF m 184 #[.val (.int i0), .val (.int i1), .val (.int i2), .val (.int i3), .val (.int i4), .val (.int i5), .val (.int (Int32.ofNat cap)), .val (.int (2 : Int32)), .val (.ref b15), .val (.ref b19), .val (.int (1 : Int32)), .unset] [(.int (2 : Int32))])) (fun t k => XS.iload X19.here hx rfl (hb hby at_182) rfl k) ?_
    refine own_by (B := T19.setTop (mkF m 185 #[.val (.int i0), .val (.int i1), .val (.int i2), .val (.int i3), .val (.int i4), .val (.int i5), .val (.int (Int32.ofNat cap)), .val (.int (2 : Int32)), .val (.ref b15), .val (.ref b19), .val (.int (1 : Int32)), .unset] [(.int (3 : Int32)), (.int (2 : Int32))])) (fun t k => XS.iconst X19.here hx rfl (hb hby at_184) k) ?_
    refine own_by (B := T19.setTop (mkF m 209 #[.val (.int i0), .val (.int i1), .val (.int i2), .val (.int i3), .val (.int i4), .val (.int i5), .val (.int (Int32.ofNat cap)), .val (.int (2 : Int32)), .val (.ref b15), .val (.ref b19), .val (.int (1 : Int32)), .unset] [])) (fun t k => XS.icmpYes X19.here hx rfl (pc0 := 185) (pc' := 209) rfl (hb hby at_185) rfl (flt (by decide)).2.2.2 (by decide) (by decide) k) ?_
    refine own_by (B := T19.setTop (mkF m 211 #[.val (.int i0), .val (.int i1), .val (.int i2), .val (.int i3), .val (.int i4), .val (.int i5), .val (.int (Int32.ofNat cap)), .val (.int (2 : Int32)), .val (.ref b15), .val (.ref b19), .val (.int (1 : Int32)), .unset] [(.int (2 : Int32))])) (fun t k => XS.iload X19.here hx rfl (hb hby at_209) rfl k) ?_
    refine own_by (B := T19.setTop (mkF m 214 #[.val (.int i0), .val (.int i1), .val (.int i2), .val (.int i3), .val (.int i4), .val (.int i5), .val (.int (Int32.ofNat cap)), .val (.int (2 : Int32)), .val (.ref b15), .val (.ref b19), .val (.int (1 : Int32)), .unset] [])) (fun t k => XS.ifNo X19.here hx rfl (hb hby at_211) rfl ((if0 _ _).trans (tlt (by decide)).2.2.2) k) ?_
    refine own_by (B := T19.setTop (mkF m 216 #[.val (.int i0), .val (.int i1), .val (.int i2), .val (.int i3), .val (.int i4), .val (.int i5), .val (.int (Int32.ofNat cap)), .val (.int (2 : Int32)), .val (.ref b15), .val (.ref b19), .val (.int (1 : Int32)), .unset] [(.ref b19)])) (fun t k => XS.aload X19.here hx rfl (hb hby at_214) rfl rfl k) ?_
    refine own_by (B := T19.setTop (mkF m 217 #[.val (.int i0), .val (.int i1), .val (.int i2), .val (.int i3), .val (.int i4), .val (.int i5), .val (.int (Int32.ofNat cap)), .val (.int (2 : Int32)), .val (.ref b15), .val (.ref b19), .val (.int (1 : Int32)), .unset] [(.int (0 : Int32)), (.ref b19)])) (fun t k => XS.iconst X19.here hx rfl (hb hby at_216) k) ?_
    refine own_by (B := T19.setTop (mkF m 218 #[.val (.int i0), .val (.int i1), .val (.int i2), .val (.int i3), .val (.int i4), .val (.int i5), .val (.int (Int32.ofNat cap)), .val (.int (2 : Int32)), .val (.ref b15), .val (.ref b19), .val (.int (1 : Int32)), .unset] [(.int i1), (.int (0 : Int32)), (.ref b19)])) (fun t k => XS.iloadN X19.here hx rfl (hb hby at_217) rfl k) ?_
    refine own_by (B := T19.setTop (mkF m 219 #[.val (.int i0), .val (.int i1), .val (.int i2), .val (.int i3), .val (.int i4), .val (.int i5), .val (.int (Int32.ofNat cap)), .val (.int (2 : Int32)), .val (.ref b15), .val (.ref b19), .val (.int (1 : Int32)), .unset] [(.int (-1 : Int32)), (.int i1), (.int (0 : Int32)), (.ref b19)])) (fun t k => XS.iconst X19.here hx rfl (hb hby at_218) k) ?_
    refine own_by (B := T19.setTop (mkF m 220 #[.val (.int i0), .val (.int i1), .val (.int i2), .val (.int i3), .val (.int i4), .val (.int i5), .val (.int (Int32.ofNat cap)), .val (.int (2 : Int32)), .val (.ref b15), .val (.ref b19), .val (.int (1 : Int32)), .unset] [(.int (i1 ^^^ (-1 : Int32))), (.int (0 : Int32)), (.ref b19)])) (fun t k => XS.ixor X19.here hx rfl (hb hby at_219) rfl k) ?_
    obtain ⟨cl23, Ar23, hin23, -⟩ := V_b19.at (j := (0 : Int32)) ⟨by decide, by decide⟩
    obtain ⟨T23, h23, X23, e23, W23, st23⟩ := stI X19 hx hZ rfl Ar23 (j := (0 : Int32)) hin23 (g := (mkF m 220 #[.val (.int i0), .val (.int i1), .val (.int i2), .val (.int i3), .val (.int i4), .val (.int i5), .val (.int (Int32.ofNat cap)), .val (.int (2 : Int32)), .val (.ref b15), .val (.ref b19), .val (.int (1 : Int32)), .unset] [(.int (i1 ^^^ (-1 : Int32))), (.int (0 : Int32)), (.ref b19)])) rfl rfl (hb hby at_220)
    have E_b15 := E_b15.wr W23
    have F_size_b15 := F_size_b15.other W23 (Or.inl ne_b15_b19)
    have F_entries_b15 := F_entries_b15.other W23 (Or.inl ne_b15_b19)
    have V_b18 := V_b18.other W23 ne_b18_b19
    have V_b19 := V_b19.set W23
    have Zs : n0 ≤ h23.size := by rw [W23.size]; exact Zs
    have Nf := Fr.snoc X23 Nf g_b19
    refine own_by (B := T23.setTop (mkF m 221 #[.val (.int i0), .val (.int i1), .val (.int i2), .val (.int i3), .val (.int i4), .val (.int i5), .val (.int (Int32.ofNat cap)), .val (.int (2 : Int32)), .val (.ref b15), .val (.ref b19), .val (.int (1 : Int32)), .unset] [])) st23 ?_
    refine own_by (B := T23.setTop (mkF m 223 #[.val (.int i0), .val (.int i1), .val (.int i2), .val (.int i3), .val (.int i4), .val (.int i5), .val (.int (Int32.ofNat cap)), .val (.int (2 : Int32)), .val (.ref b15), .val (.ref b19), .val (.int (1 : Int32)), .unset] [(.ref b15)])) (fun t k => XS.aload X23.here hx rfl (hb hby at_221) rfl rfl k) ?_
    obtain ⟨cq24, kq24, q24a, q24b, q24c⟩ := isOf hZ e23 E_b15
    obtain ⟨_, _, ⟨T24, L24, k24, n24⟩, -, X24, ⟨Lc24, hQ24, l24, y24, z24⟩, st24⟩ := X23.virtualBack hx (y := (⟨"com/example/surrogate/surrogate/index/Entries", "numbers", "()[I"⟩ : MethodName)) (z := (⟨"com/example/surrogate/surrogate/index/Entries", "numbers", "()[I"⟩ : MethodName)) hown (mvT hZ (hw _ (List.mem_of_getElem? (i := 12) rfl))) (mvT hZ (hw _ (List.mem_of_getElem? (i := 13) rfl))) (notFace_of_selects (args := #[]) (mvT hZ (hw _ (List.mem_of_getElem? (i := 15) rfl)))) (mvT hZ (hw _ (List.mem_of_getElem? (i := 15) rfl))) (mvT hZ (hw _ (List.mem_of_getElem? (i := 14) rfl))) (by decide) (backOf (W := 0) (rmF2 l Z a0 hw [] b15 b18 mz18 f18 i1 i2 h23 n0 Zs F_size_b15 F_entries_b15 V_b18 ne_b15_b18 (by omega) (by omega) hA18_0 hA18_1) hZ (hw _ (List.mem_of_getElem? (i := 16) rfl)) (hw _ (List.mem_of_getElem? (i := 2) rfl)) (by decide) (by decide)) q24a q24c (g := (mkF m 223 #[.val (.int i0), .val (.int i1), .val (.int i2), .val (.int i3), .val (.int i4), .val (.int i5), .val (.int (Int32.ofNat cap)), .val (.int (2 : Int32)), .val (.ref b15), .val (.ref b19), .val (.int (1 : Int32)), .unset] [(.ref b15)])) rfl (by rw [hml]; rfl) (Steps.refl _) (argsL := []) (rest := []) (lenOf own_pd3 rfl) rfl (by show 2 * 0 + _ ≤ _; exact Nat.le_of_eq rfl) (hb hby at_223) (fun _ _ => ⟨rfl, e23, (by decide : 5 + 1 ≤ _), (by decide : 34 + 2 ≤ _)⟩)
    dsimp only [Pt.U, Pt.locs, Pt.cells, Pt.slots] at X24 l24 y24 z24 st24 hQ24
    subst l24 y24 z24
    obtain ⟨rfl, Nq24, Kc24, g24, Vc24, hg24_0, hg24_1⟩ := hQ24
    have Nf := Fr.app Nf Nq24
    obtain ⟨b24, gq24⟩ : ∃ z, z = h23.size := ⟨_, rfl⟩
    rw [← gq24] at Vc24 st24
    have ne_b15_b24 : b15 ≠ b24 := Nat.ne_of_lt (Nat.lt_of_lt_of_le E_b15.lt (Nat.le_of_eq gq24.symm))
    have ne_b18_b24 : b18 ≠ b24 := Nat.ne_of_lt (Nat.lt_of_lt_of_le V_b18.lt (Nat.le_of_eq gq24.symm))
    have ne_b19_b24 : b19 ≠ b24 := Nat.ne_of_lt (Nat.lt_of_lt_of_le V_b19.lt (Nat.le_of_eq gq24.symm))
    have g_b24 : n0 ≤ b24 := Nat.le_trans Zs (Nat.le_of_eq gq24.symm)
    have E_b15 := E_b15.keep Kc24
    have F_size_b15 := F_size_b15.keep Kc24 nin0
    have F_entries_b15 := F_entries_b15.keep Kc24 nin0
    have V_b18 := V_b18.keep Kc24 nin0
    have V_b19 := V_b19.keep Kc24 nin0
    have Zs := Nat.le_trans Zs Kc24.1
    have V_b24 := Vc24
    refine own_by (B := T24.setTop (mkF m 226 #[.val (.int i0), .val (.int i1), .val (.int i2), .val (.int i3), .val (.int i4), .val (.int i5), .val (.int (Int32.ofNat cap)), .val (.int (2 : Int32)), .val (.ref b15), .val (.ref b19), .val (.int (1 : Int32)), .unset] [(.ref b24)])) (fun t k => st24.trans k) ?_
    refine own_by (B := T24.setTop (mkF m 228 #[.val (.int i0), .val (.int i1), .val (.int i2), .val (.int i3), .val (.int i4), .val (.int i5), .val (.int (Int32.ofNat cap)), .val (.int (2 : Int32)), .val (.ref b15), .val (.ref b19), .val (.int (1 : Int32)), .val (.ref b24)] [])) (fun t k => XS.astore X24.here hx rfl (hb hby at_226) rfl rfl (l' := #[.val (.int i0), .val (.int i1), .val (.int i2), .val (.int i3), .val (.int i4), .val (.int i5), .val (.int (Int32.ofNat cap)), .val (.int (2 : Int32)), .val (.ref b15), .val (.ref b19), .val (.int (1 : Int32)), .val (.ref b24)]) rfl k) ?_
    refine own_by (B := T24.setTop (mkF m 230 #[.val (.int i0), .val (.int i1), .val (.int i2), .val (.int i3), .val (.int i4), .val (.int i5), .val (.int (Int32.ofNat cap)), .val (.int (2 : Int32)), .val (.ref b15), .val (.ref b19), .val (.int (1 : Int32)), .val (.ref b24)] [(.ref b24)])) (fun t k => XS.aload X24.here hx rfl (hb hby at_228) rfl rfl k) ?_
    refine own_by (B := T24.setTop (mkF m 232 #[.val (.int i0), .val (.int i1), .val (.int i2), .val (.int i3), .val (.int i4), .val (.int i5), .val (.int (Int32.ofNat cap)), .val (.int (2 : Int32)), .val (.ref b15), .val (.ref b19), .val (.int (1 : Int32)), .val (.ref b24)] [(.ref b19), (.ref b24)])) (fun t k => XS.aload X24.here hx rfl (hb hby at_230) rfl rfl k) ?_
    refine own_by (B := T24.setTop (mkF m 235 #[.val (.int i0), .val (.int i1), .val (.int i2), .val (.int i3), .val (.int i4), .val (.int i5), .val (.int (Int32.ofNat cap)), .val (.int (2 : Int32)), .val (.ref b15), .val (.ref b19), .val (.int (1 : Int32)), .val (.ref b24)] [])) (fun t k => Jvm.RoadKit.acmp (g := (mkF m 232 #[.val (.int i0), .val (.int i1), .val (.int i2), .val (.int i3), .val (.int i4), .val (.int i5), .val (.int (Int32.ofNat cap)), .val (.int (2 : Int32)), .val (.ref b15), .val (.ref b19), .val (.int (1 : Int32)), .val (.ref b24)] [(.ref b19), (.ref b24)])) X24 hx rfl rfl rfl (pc0 := 232) (pc' := 235) (same := false) rfl (hb hby at_232) rfl (decide_eq_false fun q => (Ne.symm ne_b19_b24) (Value.ref.inj q)) (by decide) (by decide) k) ?_
    refine own_by (B := T24.setTop (mkF m 237 #[.val (.int i0), .val (.int i1), .val (.int i2), .val (.int i3), .val (.int i4), .val (.int i5), .val (.int (Int32.ofNat cap)), .val (.int (2 : Int32)), .val (.ref b15), .val (.ref b19), .val (.int (1 : Int32)), .val (.ref b24)] [(.ref b24)])) (fun t k => XS.aload X24.here hx rfl (hb hby at_235) rfl rfl k) ?_
    obtain ⟨cl25, Ar25, Sz25, Ng25, -⟩ := id V_b24
    refine own_by (B := T24.setTop (mkF m 238 #[.val (.int i0), .val (.int i1), .val (.int i2), .val (.int i3), .val (.int i4), .val (.int i5), .val (.int (Int32.ofNat cap)), .val (.int (2 : Int32)), .val (.ref b15), .val (.ref b19), .val (.int (1 : Int32)), .val (.ref b24)] [(.int (2 : Int32))])) (fun t k => X24.arraylength hx Ar25.1 (State.isArrayOf_alike hZ.alike Ar25.2.1) (g := (mkF m 237 #[.val (.int i0), .val (.int i1), .val (.int i2), .val (.int i3), .val (.int i4), .val (.int i5), .val (.int (Int32.ofNat cap)), .val (.int (2 : Int32)), .val (.ref b15), .val (.ref b19), .val (.int (1 : Int32)), .val (.ref b24)] [(.ref b24)])) rfl rfl (hb hby at_237) _ (by rw [len_of Sz25 Ng25]; exact k)) ?_
    refine own_by (B := T24.setTop (mkF m 240 #[.val (.int i0), .val (.int i1), .val (.int i2), .val (.int i3), .val (.int i4), .val (.int i5), .val (.int (Int32.ofNat cap)), .val (.int (2 : Int32)), .val (.ref b15), .val (.ref b19), .val (.int (1 : Int32)), .val (.ref b24)] [(.int (2 : Int32)), (.int (2 : Int32))])) (fun t k => XS.iload X24.here hx rfl (hb hby at_238) rfl k) ?_
    refine own_by (B := T24.setTop (mkF m 243 #[.val (.int i0), .val (.int i1), .val (.int i2), .val (.int i3), .val (.int i4), .val (.int i5), .val (.int (Int32.ofNat cap)), .val (.int (2 : Int32)), .val (.ref b15), .val (.ref b19), .val (.int (1 : Int32)), .val (.ref b24)] [])) (fun t k => XS.icmpNo X24.here hx rfl (hb hby at_240) rfl (teq (by decide)).2 k) ?_
    refine own_by (B := T24.setTop (mkF m 245 #[.val (.int i0), .val (.int i1), .val (.int i2), .val (.int i3), .val (.int i4), .val (.int i5), .val (.int (Int32.ofNat cap)), .val (.int (2 : Int32)), .val (.ref b15), .val (.ref b19), .val (.int (1 : Int32)), .val (.ref b24)] [(.ref b24)])) (fun t k => XS.aload X24.here hx rfl (hb hby at_243) rfl rfl k) ?_
    refine own_by (B := T24.setTop (mkF m 246 #[.val (.int i0), .val (.int i1), .val (.int i2), .val (.int i3), .val (.int i4), .val (.int i5), .val (.int (Int32.ofNat cap)), .val (.int (2 : Int32)), .val (.ref b15), .val (.ref b19), .val (.int (1 : Int32)), .val (.ref b24)] [(.int (0 : Int32)), (.ref b24)])) (fun t k => XS.iconst X24.here hx rfl (hb hby at_245) k) ?_
    obtain ⟨cl26, Ar26, hin26, hat26⟩ := V_b24.at (j := (0 : Int32)) ⟨by decide, by decide⟩
    have hat26 := hat26.trans (congrArg some (show _ = (.int i1) from hg24_0))
    refine own_by (B := T24.setTop (mkF m 247 #[.val (.int i0), .val (.int i1), .val (.int i2), .val (.int i3), .val (.int i4), .val (.int i5), .val (.int (Int32.ofNat cap)), .val (.int (2 : Int32)), .val (.ref b15), .val (.ref b19), .val (.int (1 : Int32)), .val (.ref b24)] [(.int i1)])) (fun t k => X24.iaload hx (j := (0 : Int32)) (v := (.int i1)) Ar26.1 (State.isArrayOf_alike hZ.alike Ar26.2.1) Ar26.2.2 hin26 hat26 (g := (mkF m 246 #[.val (.int i0), .val (.int i1), .val (.int i2), .val (.int i3), .val (.int i4), .val (.int i5), .val (.int (Int32.ofNat cap)), .val (.int (2 : Int32)), .val (.ref b15), .val (.ref b19), .val (.int (1 : Int32)), .val (.ref b24)] [(.int (0 : Int32)), (.ref b24)])) rfl rfl (hb hby at_246) _ k) ?_
    refine own_by (B := T24.setTop (mkF m 248 #[.val (.int i0), .val (.int i1), .val (.int i2), .val (.int i3), .val (.int i4), .val (.int i5), .val (.int (Int32.ofNat cap)), .val (.int (2 : Int32)), .val (.ref b15), .val (.ref b19), .val (.int (1 : Int32)), .val (.ref b24)] [(.int i1), (.int i1)])) (fun t k => XS.iloadN X24.here hx rfl (hb hby at_247) rfl k) ?_
    refine own_by (B := T24.setTop (mkF m 253 #[.val (.int i0), .val (.int i1), .val (.int i2), .val (.int i3), .val (.int i4), .val (.int i5), .val (.int (Int32.ofNat cap)), .val (.int (2 : Int32)), .val (.ref b15), .val (.ref b19), .val (.int (1 : Int32)), .val (.ref b24)] [])) (fun t k => XS.icmpYes X24.here hx rfl (pc0 := 248) (pc' := 253) rfl (hb hby at_248) rfl (teq rfl).1 (by decide) (by decide) k) ?_
    refine own_by (B := T24.setTop (mkF m 255 #[.val (.int i0), .val (.int i1), .val (.int i2), .val (.int i3), .val (.int i4), .val (.int i5), .val (.int (Int32.ofNat cap)), .val (.int (2 : Int32)), .val (.ref b15), .val (.ref b19), .val (.int (1 : Int32)), .val (.ref b24)] [(.int (1 : Int32))])) (fun t k => XS.iload X24.here hx rfl (hb hby at_253) rfl k) ?_
    exact own_end X24 (v := some (.int (1 : Int32))) (fun h => by rw [Bd.returns] at h; cases h) (BodyLoose.notSynchronized Bd) (Q := (Q_rm0 Z i0 i1 i2 i3 i4 i5 h0 n0)) (fun fs hr => retN X24 hx (t := .boolean) Bd.returns (by simp) (hb hby at_255) hr) (show (Q_rm0 Z i0 i1 i2 i3 i4 i5 h0 n0) _ T24.heap _ from (⟨rfl, Nf⟩)) (by decide) (by decide)
  · rw [hq]
    obtain ⟨T27, h27, X27, e27, E27, A27, D27, -, st27⟩ := newO X0 hx hZ hown (hw _ (List.mem_of_getElem? (i := 0) rfl)) (hw _ (List.mem_of_getElem? (i := 1) rfl)) (hw _ (List.mem_of_getElem? (i := 2) rfl)) e0 (g := (mkF m 12 #[.val (.int i0), .val (.int i1), .val (.int i2), .val (.int i3), .val (.int i4), .val (.int i5), .val (.int (Int32.ofNat cap)), .val (.int (3 : Int32)), .unset, .unset, .unset, .unset] [])) rfl (hb hby at_12) (by decide) (by decide)
    obtain ⟨b27, gq27⟩ : ∃ z, z = h0.size := ⟨_, rfl⟩
    rw [← gq27] at A27 D27 st27
    have g_b27 : n0 ≤ b27 := Nat.le_trans Zs (Nat.le_of_eq gq27.symm)
    have Zs := Nat.le_trans Zs E27.1
    have E_b27 := A27
    have F_entries_b27 : Fld Z h27 b27 "com/example/surrogate/surrogate/index/Entries" "entries" "[I" .null := D27 (Or.inl (hw _ (List.mem_of_getElem? (i := 11) rfl))) (ty := (.array .int)) (by decide)
    have F_size_b27 : Fld Z h27 b27 "com/example/surrogate/surrogate/index/Entries" "size" "I" (.int (0 : Int32)) := D27 (Or.inl (hw _ (List.mem_of_getElem? (i := 18) rfl))) (ty := .int) (by decide)
    refine own_by (B := T27.setTop (mkF m 15 #[.val (.int i0), .val (.int i1), .val (.int i2), .val (.int i3), .val (.int i4), .val (.int i5), .val (.int (Int32.ofNat cap)), .val (.int (3 : Int32)), .unset, .unset, .unset, .unset] [(.ref b27)])) st27 ?_
    refine own_by (B := T27.setTop (mkF m 16 #[.val (.int i0), .val (.int i1), .val (.int i2), .val (.int i3), .val (.int i4), .val (.int i5), .val (.int (Int32.ofNat cap)), .val (.int (3 : Int32)), .unset, .unset, .unset, .unset] [(.ref b27), (.ref b27)])) (fun t k => XS.dup X27.here hx rfl (hb hby at_15) rfl rfl k) ?_
    refine own_by (B := T27.setTop (mkF m 18 #[.val (.int i0), .val (.int i1), .val (.int i2), .val (.int i3), .val (.int i4), .val (.int i5), .val (.int (Int32.ofNat cap)), .val (.int (3 : Int32)), .unset, .unset, .unset, .unset] [(.int (Int32.ofNat cap)), (.ref b27), (.ref b27)])) (fun t k => XS.iload X27.here hx rfl (hb hby at_16) rfl k) ?_
    obtain ⟨_, _, ⟨T28, L28, k28, n28⟩, -, X28, ⟨Lc28, hQ28, l28, y28, z28⟩, st28⟩ := X27.specialBack hx (y := (⟨"com/example/surrogate/surrogate/index/Entries", "<init>", "(I)V"⟩ : MethodName)) rfl hown (mvT hZ (hw _ (List.mem_of_getElem? (i := 3) rfl))) (mvT hZ (hw _ (List.mem_of_getElem? (i := 4) rfl))) (mvT hZ (hw _ (List.mem_of_getElem? (i := 5) rfl))) (by decide) (backOf (W := 1) (rmI l Z a0 hw [] b27 cap h27 n0 Zs E_b27 F_size_b27 F_entries_b27 g_b27 hcap) hZ (hw _ (List.mem_of_getElem? (i := 5) rfl)) (hw _ (List.mem_of_getElem? (i := 2) rfl)) (by decide) (by decide)) (g := (mkF m 18 #[.val (.int i0), .val (.int i1), .val (.int i2), .val (.int i3), .val (.int i4), .val (.int i5), .val (.int (Int32.ofNat cap)), .val (.int (3 : Int32)), .unset, .unset, .unset, .unset] [(.int (Int32.ofNat cap)), (.ref b27), (.ref b27)])) rfl (by rw [hml]; rfl) (Steps.refl _) (a := b27) (argsL := [(.int (Int32.ofNat cap))]) (rest := [(.ref b27)]) (lenOf own_pd2 rfl) rfl (by show 2 * 0 + _ ≤ _; exact Nat.le_of_eq rfl) (hb hby at_18) (fun _ _ => ⟨rfl, e27, (by decide : 1 + 1 ≤ _), (by decide : 2 + 6 ≤ _)⟩)
    dsimp only [Pt.U, Pt.locs, Pt.cells, Pt.slots] at X28 l28 y28 z28 st28 hQ28
    subst l28 y28 z28
    obtain ⟨rfl, Nq28, Kc28, Fs28, b28, f28, g_b28, ne_b27_b28, Fe28, Vc28, hz28⟩ := hQ28
    have Nf := Fr.app Nf Nq28
    have E_b27 := E_b27.keep Kc28
    have Zs := Nat.le_trans Zs Kc28.1
    have F_size_b27 := Fs28
    have F_entries_b27 := Fe28
    have V_b28 := Vc28
    have hint28 : ∀ i, i < 2 * cap → ∃ x, f28 i = .int x := fun i _ => ⟨_, hz28 i⟩
    refine own_by (B := T28.setTop (mkF m 21 #[.val (.int i0), .val (.int i1), .val (.int i2), .val (.int i3), .val (.int i4), .val (.int i5), .val (.int (Int32.ofNat cap)), .val (.int (3 : Int32)), .unset, .unset, .unset, .unset] [(.ref b27)])) (fun t k => st28.trans k) ?_
    refine own_by (B := T28.setTop (mkF m 23 #[.val (.int i0), .val (.int i1), .val (.int i2), .val (.int i3), .val (.int i4), .val (.int i5), .val (.int (Int32.ofNat cap)), .val (.int (3 : Int32)), .val (.ref b27), .unset, .unset, .unset] [])) (fun t k => XS.astore X28.here hx rfl (hb hby at_21) rfl rfl (l' := #[.val (.int i0), .val (.int i1), .val (.int i2), .val (.int i3), .val (.int i4), .val (.int i5), .val (.int (Int32.ofNat cap)), .val (.int (3 : Int32)), .val (.ref b27), .unset, .unset, .unset]) rfl k) ?_
    refine own_by (B := T28.setTop (mkF m 25 #[.val (.int i0), .val (.int i1), .val (.int i2), .val (.int i3), .val (.int i4), .val (.int i5), .val (.int (Int32.ofNat cap)), .val (.int (3 : Int32)), .val (.ref b27), .unset, .unset, .unset] [(.int (3 : Int32))])) (fun t k => XS.iload X28.here hx rfl (hb hby at_23) rfl k) ?_
    refine own_by (B := T28.setTop (mkF m 28 #[.val (.int i0), .val (.int i1), .val (.int i2), .val (.int i3), .val (.int i4), .val (.int i5), .val (.int (Int32.ofNat cap)), .val (.int (3 : Int32)), .val (.ref b27), .unset, .unset, .unset] [])) (fun t k => XS.ifNo X28.here hx rfl (hb hby at_25) rfl ((if0 _ _).trans (tlt (by decide)).2.2.2) k) ?_
    refine own_by (B := T28.setTop (mkF m 30 #[.val (.int i0), .val (.int i1), .val (.int i2), .val (.int i3), .val (.int i4), .val (.int i5), .val (.int (Int32.ofNat cap)), .val (.int (3 : Int32)), .val (.ref b27), .unset, .unset, .unset] [(.ref b27)])) (fun t k => XS.aload X28.here hx rfl (hb hby at_28) rfl rfl k) ?_
    refine own_by (B := T28.setTop (mkF m 31 #[.val (.int i0), .val (.int i1), .val (.int i2), .val (.int i3), .val (.int i4), .val (.int i5), .val (.int (Int32.ofNat cap)), .val (.int (3 : Int32)), .val (.ref b27), .unset, .unset, .unset] [(.int i1), (.ref b27)])) (fun t k => XS.iloadN X28.here hx rfl (hb hby at_30) rfl k) ?_
    refine own_by (B := T28.setTop (mkF m 33 #[.val (.int i0), .val (.int i1), .val (.int i2), .val (.int i3), .val (.int i4), .val (.int i5), .val (.int (Int32.ofNat cap)), .val (.int (3 : Int32)), .val (.ref b27), .unset, .unset, .unset] [(.int i5), (.int i1), (.ref b27)])) (fun t k => XS.iload X28.here hx rfl (hb hby at_31) rfl k) ?_
    obtain ⟨cq29, kq29, q29a, q29b, q29c⟩ := isOf hZ rfl E_b27
    obtain ⟨_, _, ⟨T29, L29, k29, n29⟩, -, X29, ⟨Lc29, hQ29, l29, y29, z29⟩, st29⟩ := X28.virtualBack hx (y := (⟨"com/example/surrogate/surrogate/index/Entries", "add", "(II)V"⟩ : MethodName)) (z := (⟨"com/example/surrogate/surrogate/index/Entries", "add", "(II)V"⟩ : MethodName)) hown (mvT hZ (hw _ (List.mem_of_getElem? (i := 19) rfl))) (mvT hZ (hw _ (List.mem_of_getElem? (i := 20) rfl))) (notFace_of_selects (args := #[]) (mvT hZ (hw _ (List.mem_of_getElem? (i := 22) rfl)))) (mvT hZ (hw _ (List.mem_of_getElem? (i := 22) rfl))) (mvT hZ (hw _ (List.mem_of_getElem? (i := 21) rfl))) (by decide) (backOf (W := 0) (rmA l Z a0 hw [] b27 i1 i5 b28 0 (2 * cap) f28 T28.heap n0 Zs E_b27 F_size_b27 F_entries_b27 V_b28 hint28 g_b27 g_b28 ne_b27_b28 (by omega) (by omega) (by omega) (by omega)) hZ (hw _ (List.mem_of_getElem? (i := 23) rfl)) (hw _ (List.mem_of_getElem? (i := 2) rfl)) (by decide) (by decide)) q29a q29c (g := (mkF m 33 #[.val (.int i0), .val (.int i1), .val (.int i2), .val (.int i3), .val (.int i4), .val (.int i5), .val (.int (Int32.ofNat cap)), .val (.int (3 : Int32)), .val (.ref b27), .unset, .unset, .unset] [(.int i5), (.int i1), (.ref b27)])) rfl (by rw [hml]; rfl) (Steps.refl _) (argsL := [(.int i1), (.int i5)]) (rest := []) (lenOf own_pd4 rfl) rfl (by show 2 * 0 + _ ≤ _; exact Nat.le_of_eq rfl) (hb hby at_33) (fun _ _ => ⟨rfl, rfl, (by decide : 2 + 1 ≤ _), (by decide : 8 + 12 ≤ _)⟩)
    dsimp only [Pt.U, Pt.locs, Pt.cells, Pt.slots] at X29 l29 y29 z29 st29 hQ29
    subst l29 y29 z29
    obtain ⟨rfl, Nq29, Kc29, Fs29, b29, mz29, f29, g_b29, ne_b27_b29, Fe29, Vc29, hma29, hmb29, hmc29, hne29, hnf29, hol29, hin29⟩ := hQ29
    have Nf := Fr.app Nf Nq29
    have E_b27 := E_b27.keep Kc29
    have Zs := Nat.le_trans Zs Kc29.1
    have F_size_b27 := Fs29
    have F_entries_b27 := Fe29
    have V_b29 := Vc29
    have hA29_0 : f29 0 = .int i1 := hne29
    have hB29_0 : f29 1 = .int i5 := hnf29
    refine own_by (B := T29.setTop (mkF m 36 #[.val (.int i0), .val (.int i1), .val (.int i2), .val (.int i3), .val (.int i4), .val (.int i5), .val (.int (Int32.ofNat cap)), .val (.int (3 : Int32)), .val (.ref b27), .unset, .unset, .unset] [])) (fun t k => st29.trans k) ?_
    refine own_by (B := T29.setTop (mkF m 38 #[.val (.int i0), .val (.int i1), .val (.int i2), .val (.int i3), .val (.int i4), .val (.int i5), .val (.int (Int32.ofNat cap)), .val (.int (3 : Int32)), .val (.ref b27), .unset, .unset, .unset] [(.int (3 : Int32))])) (fun t k => XS.iload X29.here hx rfl (hb hby at_36) rfl k) ?_
    refine own_by (B := T29.setTop (mkF m 39 #[.val (.int i0), .val (.int i1), .val (.int i2), .val (.int i3), .val (.int i4), .val (.int i5), .val (.int (Int32.ofNat cap)), .val (.int (3 : Int32)), .val (.ref b27), .unset, .unset, .unset] [(.int (1 : Int32)), (.int (3 : Int32))])) (fun t k => XS.iconst X29.here hx rfl (hb hby at_38) k) ?_
    refine own_by (B := T29.setTop (mkF m 42 #[.val (.int i0), .val (.int i1), .val (.int i2), .val (.int i3), .val (.int i4), .val (.int i5), .val (.int (Int32.ofNat cap)), .val (.int (3 : Int32)), .val (.ref b27), .unset, .unset, .unset] [])) (fun t k => XS.icmpNo X29.here hx rfl (hb hby at_39) rfl (tlt (by decide)).2.2.2 k) ?_
    refine own_by (B := T29.setTop (mkF m 44 #[.val (.int i0), .val (.int i1), .val (.int i2), .val (.int i3), .val (.int i4), .val (.int i5), .val (.int (Int32.ofNat cap)), .val (.int (3 : Int32)), .val (.ref b27), .unset, .unset, .unset] [(.ref b27)])) (fun t k => XS.aload X29.here hx rfl (hb hby at_42) rfl rfl k) ?_
    refine own_by (B := T29.setTop (mkF m 45 #[.val (.int i0), .val (.int i1), .val (.int i2), .val (.int i3), .val (.int i4), .val (.int i5), .val (.int (Int32.ofNat cap)), .val (.int (3 : Int32)), .val (.ref b27), .unset, .unset, .unset] [(.int i2), (.ref b27)])) (fun t k => XS.iloadN X29.here hx rfl (hb hby at_44) rfl k) ?_
    refine own_by (B := T29.setTop (mkF m 47 #[.val (.int i0), .val (.int i1), .val (.int i2), .val (.int i3), .val (.int i4), .val (.int i5), .val (.int (Int32.ofNat cap)), .val (.int (3 : Int32)), .val (.ref b27), .unset, .unset, .unset] [(.int i5), (.int i2), (.ref b27)])) (fun t k => XS.iload X29.here hx rfl (hb hby at_45) rfl k) ?_
    refine own_by (B := T29.setTop (mkF m 48 #[.val (.int i0), .val (.int i1), .val (.int i2), .val (.int i3), .val (.int i4), .val (.int i5), .val (.int (Int32.ofNat cap)), .val (.int (3 : Int32)), .val (.ref b27), .unset, .unset, .unset] [(.int (1 : Int32)), (.int i5), (.int i2), (.ref b27)])) (fun t k => XS.iconst X29.here hx rfl (hb hby at_47) k) ?_
    refine own_by (B := T29.setTop (mkF m 49 #[.val (.int i0), .val (.int i1), .val (.int i2), .val (.int i3), .val (.int i4), .val (.int i5), .val (.int (Int32.ofNat cap)), .val (.int (3 : Int32)), .val (.ref b27), .unset, .unset, .unset] [(.int (i5 + (1 : Int32))), (.int i2), (.ref b27)])) (fun t k => XS.iadd X29.here hx rfl (hb hby at_48) rfl k) ?_
    obtain ⟨cq30, kq30, q30a, q30b, q30c⟩ := isOf hZ rfl E_b27
    obtain ⟨_, _, ⟨T30, L30, k30, n30⟩, -, X30, ⟨Lc30, hQ30, l30, y30, z30⟩, st30⟩ := X29.virtualBack hx (y := (⟨"com/example/surrogate/surrogate/index/Entries", "add", "(II)V"⟩ : MethodName)) (z := (⟨"com/example/surrogate/surrogate/index/Entries", "add", "(II)V"⟩ : MethodName)) hown (mvT hZ (hw _ (List.mem_of_getElem? (i := 19) rfl))) (mvT hZ (hw _ (List.mem_of_getElem? (i := 20) rfl))) (notFace_of_selects (args := #[]) (mvT hZ (hw _ (List.mem_of_getElem? (i := 22) rfl)))) (mvT hZ (hw _ (List.mem_of_getElem? (i := 22) rfl))) (mvT hZ (hw _ (List.mem_of_getElem? (i := 21) rfl))) (by decide) (backOf (W := 0) (rmA l Z a0 hw [] b27 i2 (i5 + (1 : Int32)) b29 1 mz29 f29 T29.heap n0 Zs E_b27 F_size_b27 F_entries_b27 V_b29 hin29 g_b27 g_b29 ne_b27_b29 (by omega) (by omega) (by omega) (by omega)) hZ (hw _ (List.mem_of_getElem? (i := 23) rfl)) (hw _ (List.mem_of_getElem? (i := 2) rfl)) (by decide) (by decide)) q30a q30c (g := (mkF m 49 #[.val (.int i0), .val (.int i1), .val (.int i2), .val (.int i3), .val (.int i4), .val (.int i5), .val (.int (Int32.ofNat cap)), .val (.int (3 : Int32)), .val (.ref b27), .unset, .unset, .unset] [(.int (i5 + (1 : Int32))), (.int i2), (.ref b27)])) rfl (by rw [hml]; rfl) (Steps.refl _) (argsL := [(.int i2), (.int (i5 + (1 : Int32)))]) (rest := []) (lenOf own_pd4 rfl) rfl (by show 2 * 0 + _ ≤ _; exact Nat.le_of_eq rfl) (hb hby at_49) (fun _ _ => ⟨rfl, rfl, (by decide : 3 + 1 ≤ _), (by decide : 20 + 12 ≤ _)⟩)
    dsimp only [Pt.U, Pt.locs, Pt.cells, Pt.slots] at X30 l30 y30 z30 st30 hQ30
    subst l30 y30 z30
    obtain ⟨rfl, Nq30, Kc30, Fs30, b30, mz30, f30, g_b30, ne_b27_b30, Fe30, Vc30, hma30, hmb30, hmc30, hne30, hnf30, hol30, hin30⟩ := hQ30
    have Nf := Fr.app Nf Nq30
    have E_b27 := E_b27.keep Kc30
    have Zs := Nat.le_trans Zs Kc30.1
    have F_size_b27 := Fs30
    have F_entries_b27 := Fe30
    have V_b30 := Vc30
    have hA30_0 : f30 0 = .int i1 := (hol30 0 (by omega)).trans hA29_0
    have hB30_0 : f30 1 = .int i5 := (hol30 1 (by omega)).trans hB29_0
    have hA30_1 : f30 2 = .int i2 := hne30
    have hB30_1 : f30 3 = .int (i5 + (1 : Int32)) := hnf30
    refine own_by (B := T30.setTop (mkF m 52 #[.val (.int i0), .val (.int i1), .val (.int i2), .val (.int i3), .val (.int i4), .val (.int i5), .val (.int (Int32.ofNat cap)), .val (.int (3 : Int32)), .val (.ref b27), .unset, .unset, .unset] [])) (fun t k => st30.trans k) ?_
    refine own_by (B := T30.setTop (mkF m 54 #[.val (.int i0), .val (.int i1), .val (.int i2), .val (.int i3), .val (.int i4), .val (.int i5), .val (.int (Int32.ofNat cap)), .val (.int (3 : Int32)), .val (.ref b27), .unset, .unset, .unset] [(.int (3 : Int32))])) (fun t k => XS.iload X30.here hx rfl (hb hby at_52) rfl k) ?_
    refine own_by (B := T30.setTop (mkF m 55 #[.val (.int i0), .val (.int i1), .val (.int i2), .val (.int i3), .val (.int i4), .val (.int i5), .val (.int (Int32.ofNat cap)), .val (.int (3 : Int32)), .val (.ref b27), .unset, .unset, .unset] [(.int (2 : Int32)), (.int (3 : Int32))])) (fun t k => XS.iconst X30.here hx rfl (hb hby at_54) k) ?_
    refine own_by (B := T30.setTop (mkF m 58 #[.val (.int i0), .val (.int i1), .val (.int i2), .val (.int i3), .val (.int i4), .val (.int i5), .val (.int (Int32.ofNat cap)), .val (.int (3 : Int32)), .val (.ref b27), .unset, .unset, .unset] [])) (fun t k => XS.icmpNo X30.here hx rfl (hb hby at_55) rfl (tlt (by decide)).2.2.2 k) ?_
    refine own_by (B := T30.setTop (mkF m 60 #[.val (.int i0), .val (.int i1), .val (.int i2), .val (.int i3), .val (.int i4), .val (.int i5), .val (.int (Int32.ofNat cap)), .val (.int (3 : Int32)), .val (.ref b27), .unset, .unset, .unset] [(.ref b27)])) (fun t k => XS.aload X30.here hx rfl (hb hby at_58) rfl rfl k) ?_
    refine own_by (B := T30.setTop (mkF m 61 #[.val (.int i0), .val (.int i1), .val (.int i2), .val (.int i3), .val (.int i4), .val (.int i5), .val (.int (Int32.ofNat cap)), .val (.int (3 : Int32)), .val (.ref b27), .unset, .unset, .unset] [(.int i3), (.ref b27)])) (fun t k => XS.iloadN X30.here hx rfl (hb hby at_60) rfl k) ?_
    refine own_by (B := T30.setTop (mkF m 63 #[.val (.int i0), .val (.int i1), .val (.int i2), .val (.int i3), .val (.int i4), .val (.int i5), .val (.int (Int32.ofNat cap)), .val (.int (3 : Int32)), .val (.ref b27), .unset, .unset, .unset] [(.int i5), (.int i3), (.ref b27)])) (fun t k => XS.iload X30.here hx rfl (hb hby at_61) rfl k) ?_
    refine own_by (B := T30.setTop (mkF m 64 #[.val (.int i0), .val (.int i1), .val (.int i2), .val (.int i3), .val (.int i4), .val (.int i5), .val (.int (Int32.ofNat cap)), .val (.int (3 : Int32)), .val (.ref b27), .unset, .unset, .unset] [(.int (2 : Int32)), (.int i5), (.int i3), (.ref b27)])) (fun t k => XS.iconst X30.here hx rfl (hb hby at_63) k) ?_
    refine own_by (B := T30.setTop (mkF m 65 #[.val (.int i0), .val (.int i1), .val (.int i2), .val (.int i3), .val (.int i4), .val (.int i5), .val (.int (Int32.ofNat cap)), .val (.int (3 : Int32)), .val (.ref b27), .unset, .unset, .unset] [(.int (i5 + (2 : Int32))), (.int i3), (.ref b27)])) (fun t k => XS.iadd X30.here hx rfl (hb hby at_64) rfl k) ?_
    obtain ⟨cq31, kq31, q31a, q31b, q31c⟩ := isOf hZ rfl E_b27
    obtain ⟨_, _, ⟨T31, L31, k31, n31⟩, -, X31, ⟨Lc31, hQ31, l31, y31, z31⟩, st31⟩ := X30.virtualBack hx (y := (⟨"com/example/surrogate/surrogate/index/Entries", "add", "(II)V"⟩ : MethodName)) (z := (⟨"com/example/surrogate/surrogate/index/Entries", "add", "(II)V"⟩ : MethodName)) hown (mvT hZ (hw _ (List.mem_of_getElem? (i := 19) rfl))) (mvT hZ (hw _ (List.mem_of_getElem? (i := 20) rfl))) (notFace_of_selects (args := #[]) (mvT hZ (hw _ (List.mem_of_getElem? (i := 22) rfl)))) (mvT hZ (hw _ (List.mem_of_getElem? (i := 22) rfl))) (mvT hZ (hw _ (List.mem_of_getElem? (i := 21) rfl))) (by decide) (backOf (W := 0) (rmA l Z a0 hw [] b27 i3 (i5 + (2 : Int32)) b30 2 mz30 f30 T30.heap n0 Zs E_b27 F_size_b27 F_entries_b27 V_b30 hin30 g_b27 g_b30 ne_b27_b30 (by omega) (by omega) (by omega) (by omega)) hZ (hw _ (List.mem_of_getElem? (i := 23) rfl)) (hw _ (List.mem_of_getElem? (i := 2) rfl)) (by decide) (by decide)) q31a q31c (g := (mkF m 65 #[.val (.int i0), .val (.int i1), .val (.int i2), .val (.int i3), .val (.int i4), .val (.int i5), .val (.int (Int32.ofNat cap)), .val (.int (3 : Int32)), .val (.ref b27), .unset, .unset, .unset] [(.int (i5 + (2 : Int32))), (.int i3), (.ref b27)])) rfl (by rw [hml]; rfl) (Steps.refl _) (argsL := [(.int i3), (.int (i5 + (2 : Int32)))]) (rest := []) (lenOf own_pd4 rfl) rfl (by show 2 * 0 + _ ≤ _; exact Nat.le_of_eq rfl) (hb hby at_65) (fun _ _ => ⟨rfl, rfl, (by decide : 4 + 1 ≤ _), (by decide : 32 + 12 ≤ _)⟩)
    dsimp only [Pt.U, Pt.locs, Pt.cells, Pt.slots] at X31 l31 y31 z31 st31 hQ31
    subst l31 y31 z31
    obtain ⟨rfl, Nq31, Kc31, Fs31, b31, mz31, f31, g_b31, ne_b27_b31, Fe31, Vc31, hma31, hmb31, hmc31, hne31, hnf31, hol31, hin31⟩ := hQ31
    have Nf := Fr.app Nf Nq31
    have E_b27 := E_b27.keep Kc31
    have Zs := Nat.le_trans Zs Kc31.1
    have F_size_b27 := Fs31
    have F_entries_b27 := Fe31
    have V_b31 := Vc31
    have hA31_0 : f31 0 = .int i1 := (hol31 0 (by omega)).trans hA30_0
    have hB31_0 : f31 1 = .int i5 := (hol31 1 (by omega)).trans hB30_0
    have hA31_1 : f31 2 = .int i2 := (hol31 2 (by omega)).trans hA30_1
    have hB31_1 : f31 3 = .int (i5 + (1 : Int32)) := (hol31 3 (by omega)).trans hB30_1
    have hA31_2 : f31 4 = .int i3 := hne31
    have hB31_2 : f31 5 = .int (i5 + (2 : Int32)) := hnf31
    refine own_by (B := T31.setTop (mkF m 68 #[.val (.int i0), .val (.int i1), .val (.int i2), .val (.int i3), .val (.int i4), .val (.int i5), .val (.int (Int32.ofNat cap)), .val (.int (3 : Int32)), .val (.ref b27), .unset, .unset, .unset] [])) (fun t k => st31.trans k) ?_
    refine own_by (B := T31.setTop (mkF m 70 #[.val (.int i0), .val (.int i1), .val (.int i2), .val (.int i3), .val (.int i4), .val (.int i5), .val (.int (Int32.ofNat cap)), .val (.int (3 : Int32)), .val (.ref b27), .unset, .unset, .unset] [(.int (3 : Int32))])) (fun t k => XS.iload X31.here hx rfl (hb hby at_68) rfl k) ?_
    refine own_by (B := T31.setTop (mkF m 71 #[.val (.int i0), .val (.int i1), .val (.int i2), .val (.int i3), .val (.int i4), .val (.int i5), .val (.int (Int32.ofNat cap)), .val (.int (3 : Int32)), .val (.ref b27), .unset, .unset, .unset] [(.int (3 : Int32)), (.int (3 : Int32))])) (fun t k => XS.iconst X31.here hx rfl (hb hby at_70) k) ?_
    refine own_by (B := T31.setTop (mkF m 85 #[.val (.int i0), .val (.int i1), .val (.int i2), .val (.int i3), .val (.int i4), .val (.int i5), .val (.int (Int32.ofNat cap)), .val (.int (3 : Int32)), .val (.ref b27), .unset, .unset, .unset] [])) (fun t k => XS.icmpYes X31.here hx rfl (pc0 := 71) (pc' := 85) rfl (hb hby at_71) rfl (flt (by decide)).2.2.2 (by decide) (by decide) k) ?_
    refine own_by (B := T31.setTop (mkF m 87 #[.val (.int i0), .val (.int i1), .val (.int i2), .val (.int i3), .val (.int i4), .val (.int i5), .val (.int (Int32.ofNat cap)), .val (.int (3 : Int32)), .val (.ref b27), .unset, .unset, .unset] [(.ref b27)])) (fun t k => XS.aload X31.here hx rfl (hb hby at_85) rfl rfl k) ?_
    obtain ⟨cq32, kq32, q32a, q32b, q32c⟩ := isOf hZ rfl E_b27
    obtain ⟨_, _, ⟨T32, L32, k32, n32⟩, -, X32, ⟨Lc32, hQ32, l32, y32, z32⟩, st32⟩ := X31.virtualBack hx (y := (⟨"com/example/surrogate/surrogate/index/Entries", "numbers", "()[I"⟩ : MethodName)) (z := (⟨"com/example/surrogate/surrogate/index/Entries", "numbers", "()[I"⟩ : MethodName)) hown (mvT hZ (hw _ (List.mem_of_getElem? (i := 12) rfl))) (mvT hZ (hw _ (List.mem_of_getElem? (i := 13) rfl))) (notFace_of_selects (args := #[]) (mvT hZ (hw _ (List.mem_of_getElem? (i := 15) rfl)))) (mvT hZ (hw _ (List.mem_of_getElem? (i := 15) rfl))) (mvT hZ (hw _ (List.mem_of_getElem? (i := 14) rfl))) (by decide) (backOf (W := 0) (rmF3 l Z a0 hw [] b27 b31 mz31 f31 i1 i2 i3 T31.heap n0 Zs F_size_b27 F_entries_b27 V_b31 ne_b27_b31 (by omega) (by omega) hA31_0 hA31_1 hA31_2) hZ (hw _ (List.mem_of_getElem? (i := 16) rfl)) (hw _ (List.mem_of_getElem? (i := 2) rfl)) (by decide) (by decide)) q32a q32c (g := (mkF m 87 #[.val (.int i0), .val (.int i1), .val (.int i2), .val (.int i3), .val (.int i4), .val (.int i5), .val (.int (Int32.ofNat cap)), .val (.int (3 : Int32)), .val (.ref b27), .unset, .unset, .unset] [(.ref b27)])) rfl (by rw [hml]; rfl) (Steps.refl _) (argsL := []) (rest := []) (lenOf own_pd3 rfl) rfl (by show 2 * 0 + _ ≤ _; exact Nat.le_of_eq rfl) (hb hby at_87) (fun _ _ => ⟨rfl, rfl, (by decide : 5 + 1 ≤ _), (by decide : 44 + 3 ≤ _)⟩)
    dsimp only [Pt.U, Pt.locs, Pt.cells, Pt.slots] at X32 l32 y32 z32 st32 hQ32
    subst l32 y32 z32
    obtain ⟨rfl, Nq32, Kc32, g32, Vc32, hg32_0, hg32_1, hg32_2⟩ := hQ32
    have Nf := Fr.app Nf Nq32
    obtain ⟨b32, gq32⟩ : ∃ z, z = T31.heap.size := ⟨_, rfl⟩
    rw [← gq32] at Vc32 st32
    have ne_b27_b32 : b27 ≠ b32 := Nat.ne_of_lt (Nat.lt_of_lt_of_le E_b27.lt (Nat.le_of_eq gq32.symm))
    have ne_b31_b32 : b31 ≠ b32 := Nat.ne_of_lt (Nat.lt_of_lt_of_le V_b31.lt (Nat.le_of_eq gq32.symm))
    have g_b32 : n0 ≤ b32 := Nat.le_trans Zs (Nat.le_of_eq gq32.symm)
    have E_b27 := E_b27.keep Kc32
    have F_size_b27 := F_size_b27.keep Kc32 nin0
    have F_entries_b27 := F_entries_b27.keep Kc32 nin0
    have V_b31 := V_b31.keep Kc32 nin0
    have Zs := Nat.le_trans Zs Kc32.1
    have V_b32 := Vc32
    refine own_by (B := T32.setTop (mkF m 90 #[.val (.int i0), .val (.int i1), .val (.int i2), .val (.int i3), .val (.int i4), .val (.int i5), .val (.int (Int32.ofNat cap)), .val (.int (3 : Int32)), .val (.ref b27), .unset, .unset, .unset] [(.ref b32)])) (fun t k => st32.trans k) ?_
    refine own_by (B := T32.setTop (mkF m 92 #[.val (.int i0), .val (.int i1), .val (.int i2), .val (.int i3), .val (.int i4), .val (.int i5), .val (.int (Int32.ofNat cap)), .val (.int (3 : Int32)), .val (.ref b27), .val (.ref b32), .unset, .unset] [])) (fun t k => XS.astore X32.here hx rfl (hb hby at_90) rfl rfl (l' := #[.val (.int i0), .val (.int i1), .val (.int i2), .val (.int i3), .val (.int i4), .val (.int i5), .val (.int (Int32.ofNat cap)), .val (.int (3 : Int32)), .val (.ref b27), .val (.ref b32), .unset, .unset]) rfl k) ?_
    refine own_by (B := T32.setTop (mkF m 94 #[.val (.int i0), .val (.int i1), .val (.int i2), .val (.int i3), .val (.int i4), .val (.int i5), .val (.int (Int32.ofNat cap)), .val (.int (3 : Int32)), .val (.ref b27), .val (.ref b32), .unset, .unset] [(.ref b32)])) (fun t k => XS.aload X32.here hx rfl (hb hby at_92) rfl rfl k) ?_
    obtain ⟨cl33, Ar33, Sz33, Ng33, -⟩ := id V_b32
    refine own_by (B := T32.setTop (mkF m 95 #[.val (.int i0), .val (.int i1), .val (.int i2), .val (.int i3), .val (.int i4), .val (.int i5), .val (.int (Int32.ofNat cap)), .val (.int (3 : Int32)), .val (.ref b27), .val (.ref b32), .unset, .unset] [(.int (3 : Int32))])) (fun t k => X32.arraylength hx Ar33.1 (State.isArrayOf_alike hZ.alike Ar33.2.1) (g := (mkF m 94 #[.val (.int i0), .val (.int i1), .val (.int i2), .val (.int i3), .val (.int i4), .val (.int i5), .val (.int (Int32.ofNat cap)), .val (.int (3 : Int32)), .val (.ref b27), .val (.ref b32), .unset, .unset] [(.ref b32)])) rfl rfl (hb hby at_94) _ (by rw [len_of Sz33 Ng33]; exact k)) ?_
    refine own_by (B := T32.setTop (mkF m 97 #[.val (.int i0), .val (.int i1), .val (.int i2), .val (.int i3), .val (.int i4), .val (.int i5), .val (.int (Int32.ofNat cap)), .val (.int (3 : Int32)), .val (.ref b27), .val (.ref b32), .unset, .unset] [(.int (3 : Int32)), (.int (3 : Int32))])) (fun t k => XS.iload X32.here hx rfl (hb hby at_95) rfl k) ?_
    refine own_by (B := T32.setTop (mkF m 102 #[.val (.int i0), .val (.int i1), .val (.int i2), .val (.int i3), .val (.int i4), .val (.int i5), .val (.int (Int32.ofNat cap)), .val (.int (3 : Int32)), .val (.ref b27), .val (.ref b32), .unset, .unset] [])) (fun t k => XS.icmpYes X32.here hx rfl (pc0 := 97) (pc' := 102) rfl (hb hby at_97) rfl (teq (by decide)).1 (by decide) (by decide) k) ?_
    refine own_by (B := T32.setTop (mkF m 103 #[.val (.int i0), .val (.int i1), .val (.int i2), .val (.int i3), .val (.int i4), .val (.int i5), .val (.int (Int32.ofNat cap)), .val (.int (3 : Int32)), .val (.ref b27), .val (.ref b32), .unset, .unset] [(.int (1 : Int32))])) (fun t k => XS.iconst X32.here hx rfl (hb hby at_102) k) ?_
    refine own_by (B := T32.setTop (mkF m 105 #[.val (.int i0), .val (.int i1), .val (.int i2), .val (.int i3), .val (.int i4), .val (.int i5), .val (.int (Int32.ofNat cap)), .val (.int (3 : Int32)), .val (.ref b27), .val (.ref b32), .val (.int (1 : Int32)), .unset] [])) (fun t k => XS.istore X32.here hx rfl (hb hby at_103) rfl (l' := #[.val (.int i0), .val (.int i1), .val (.int i2), .val (.int i3), .val (.int i4), .val (.int i5), .val (.int (Int32.ofNat cap)), .val (.int (3 : Int32)), .val (.ref b27), .val (.ref b32), .val (.int (1 : Int32)), .unset]) rfl k) ?_
    refine own_by (B := T32.setTop (mkF m 107 #[.val (.int i0), .val (.int i1), .val (.int i2), .val (.int i3), .val (.int i4), .val (.int i5), .val (.int (Int32.ofNat cap)), .val (.int (3 : Int32)), .val (.ref b27), .val (.ref b32), .val (.int (1 : Int32)), .unset] [(.int (3 : Int32))])) (fun t k => XS.iload X32.here hx rfl (hb hby at_105) rfl k) ?_
    refine own_by (B := T32.setTop (mkF m 110 #[.val (.int i0), .val (.int i1), .val (.int i2), .val (.int i3), .val (.int i4), .val (.int i5), .val (.int (Int32.ofNat cap)), .val (.int (3 : Int32)), .val (.ref b27), .val (.ref b32), .val (.int (1 : Int32)), .unset] [])) (fun t k => XS.ifNo X32.here hx rfl (hb hby at_107) rfl ((if0 _ _).trans (tlt (by decide)).2.2.2) k) ?_
    refine own_by (B := T32.setTop (mkF m 112 #[.val (.int i0), .val (.int i1), .val (.int i2), .val (.int i3), .val (.int i4), .val (.int i5), .val (.int (Int32.ofNat cap)), .val (.int (3 : Int32)), .val (.ref b27), .val (.ref b32), .val (.int (1 : Int32)), .unset] [(.int (1 : Int32))])) (fun t k => XS.iload X32.here hx rfl (hb hby at_110) rfl k) ?_
    refine own_by (B := T32.setTop (mkF m 115 #[.val (.int i0), .val (.int i1), .val (.int i2), .val (.int i3), .val (.int i4), .val (.int i5), .val (.int (Int32.ofNat cap)), .val (.int (3 : Int32)), .val (.ref b27), .val (.ref b32), .val (.int (1 : Int32)), .unset] [])) (fun t k => XS.ifNo X32.here hx rfl (hb hby at_112) rfl ((if0 _ _).trans (feq (by decide)).1) k) ?_
    refine own_by (B := T32.setTop (mkF m 117 #[.val (.int i0), .val (.int i1), .val (.int i2), .val (.int i3), .val (.int i4), .val (.int i5), .val (.int (Int32.ofNat cap)), .val (.int (3 : Int32)), .val (.ref b27), .val (.ref b32), .val (.int (1 : Int32)), .unset] [(.ref b32)])) (fun t k => XS.aload X32.here hx rfl (hb hby at_115) rfl rfl k) ?_
    refine own_by (B := T32.setTop (mkF m 118 #[.val (.int i0), .val (.int i1), .val (.int i2), .val (.int i3), .val (.int i4), .val (.int i5), .val (.int (Int32.ofNat cap)), .val (.int (3 : Int32)), .val (.ref b27), .val (.ref b32), .val (.int (1 : Int32)), .unset] [(.int (0 : Int32)), (.ref b32)])) (fun t k => XS.iconst X32.here hx rfl (hb hby at_117) k) ?_
    obtain ⟨cl34, Ar34, hin34, hat34⟩ := V_b32.at (j := (0 : Int32)) ⟨by decide, by decide⟩
    have hat34 := hat34.trans (congrArg some (show _ = (.int i1) from hg32_0))
    refine own_by (B := T32.setTop (mkF m 119 #[.val (.int i0), .val (.int i1), .val (.int i2), .val (.int i3), .val (.int i4), .val (.int i5), .val (.int (Int32.ofNat cap)), .val (.int (3 : Int32)), .val (.ref b27), .val (.ref b32), .val (.int (1 : Int32)), .unset] [(.int i1)])) (fun t k => X32.iaload hx (j := (0 : Int32)) (v := (.int i1)) Ar34.1 (State.isArrayOf_alike hZ.alike Ar34.2.1) Ar34.2.2 hin34 hat34 (g := (mkF m 118 #[.val (.int i0), .val (.int i1), .val (.int i2), .val (.int i3), .val (.int i4), .val (.int i5), .val (.int (Int32.ofNat cap)), .val (.int (3 : Int32)), .val (.ref b27), .val (.ref b32), .val (.int (1 : Int32)), .unset] [(.int (0 : Int32)), (.ref b32)])) rfl rfl (hb hby at_118) _ k) ?_
    refine own_by (B := T32.setTop (mkF m 120 #[.val (.int i0), .val (.int i1), .val (.int i2), .val (.int i3), .val (.int i4), .val (.int i5), .val (.int (Int32.ofNat cap)), .val (.int (3 : Int32)), .val (.ref b27), .val (.ref b32), .val (.int (1 : Int32)), .unset] [(.int i1), (.int i1)])) (fun t k => XS.iloadN X32.here hx rfl (hb hby at_119) rfl k) ?_
    refine own_by (B := T32.setTop (mkF m 123 #[.val (.int i0), .val (.int i1), .val (.int i2), .val (.int i3), .val (.int i4), .val (.int i5), .val (.int (Int32.ofNat cap)), .val (.int (3 : Int32)), .val (.ref b27), .val (.ref b32), .val (.int (1 : Int32)), .unset] [])) (fun t k => XS.icmpNo X32.here hx rfl (hb hby at_120) rfl (teq rfl).2 k) ?_
    refine own_by (B := T32.setTop (mkF m 124 #[.val (.int i0), .val (.int i1), .val (.int i2), .val (.int i3), .val (.int i4), .val (.int i5), .val (.int (Int32.ofNat cap)), .val (.int (3 : Int32)), .val (.ref b27), .val (.ref b32), .val (.int (1 : Int32)), .unset] [(.int (1 : Int32))])) (fun t k => XS.iconst X32.here hx rfl (hb hby at_123) k) ?_
    refine own_by (B := T32.setTop (mkF m 128 #[.val (.int i0), .val (.int i1), .val (.int i2), .val (.int i3), .val (.int i4), .val (.int i5), .val (.int (Int32.ofNat cap)), .val (.int (3 : Int32)), .val (.ref b27), .val (.ref b32), .val (.int (1 : Int32)), .unset] [(.int (1 : Int32))])) (fun t k => XS.goto X32.here hx rfl (pc0 := 124) (pc' := 128) rfl (hb hby at_124) (by decide) (by decide) k) ?_
    refine own_by (B := T32.setTop (mkF m 130 #[.val (.int i0), .val (.int i1), .val (.int i2), .val (.int i3), .val (.int i4), .val (.int i5), .val (.int (Int32.ofNat cap)), .val (.int (3 : Int32)), .val (.ref b27), .val (.ref b32), .val (.int (1 : Int32)), .unset] [])) (fun t k => XS.istore X32.here hx rfl (hb hby at_128) rfl (l' := #[.val (.int i0), .val (.int i1), .val (.int i2), .val (.int i3), .val (.int i4), .val (.int i5), .val (.int (Int32.ofNat cap)), .val (.int (3 : Int32)), .val (.ref b27), .val (.ref b32), .val (.int (1 : Int32)), .unset]) rfl k) ?_
    refine own_by (B := T32.setTop (mkF m 132 #[.val (.int i0), .val (.int i1), .val (.int i2), .val (.int i3), .val (.int i4), .val (.int i5), .val (.int (Int32.ofNat cap)), .val (.int (3 : Int32)), .val (.ref b27), .val (.ref b32), .val (.int (1 : Int32)), .unset] [(.int (3 : Int32))])) (fun t k => XS.iload X32.here hx rfl (hb hby at_130) rfl k) ?_
    refine own_by (B := T32.setTop (mkF m 133 #[.val (.int i0), .val (.int i1), .val (.int i2), .val (.int i3), .val (.int i4), .val (.int i5), .val (.int (Int32.ofNat cap)), .val (.int (3 : Int32)), .val (.ref b27), .val (.ref b32), .val (.int (1 : Int32)), .unset] [(.int (1 : Int32)), (.int (3 : Int32))])) (fun t k => XS.iconst X32.here hx rfl (hb hby at_132) k) ?_
    refine own_by (B := T32.setTop (mkF m 136 #[.val (.int i0), .val (.int i1), .val (.int i2), .val (.int i3), .val (.int i4), .val (.int i5), .val (.int (Int32.ofNat cap)), .val (.int (3 : Int32)), .val (.ref b27), .val (.ref b32), .val (.int (1 : Int32)), .unset] [])) (fun t k => XS.icmpNo X32.here hx rfl (hb hby at_133) rfl (tlt (by decide)).2.2.2 k) ?_
    refine own_by (B := T32.setTop (mkF m 138 #[.val (.int i0), .val (.int i1), .val (.int i2), .val (.int i3), .val (.int i4), .val (.int i5), .val (.int (Int32.ofNat cap)), .val (.int (3 : Int32)), .val (.ref b27), .val (.ref b32), .val (.int (1 : Int32)), .unset] [(.int (1 : Int32))])) (fun t k => XS.iload X32.here hx rfl (hb hby at_136) rfl k) ?_
    refine own_by (B := T32.setTop (mkF m 141 #[.val (.int i0), .val (.int i1), .val (.int i2), .val (.int i3), .val (.int i4), .val (.int i5), .val (.int (Int32.ofNat cap)), .val (.int (3 : Int32)), .val (.ref b27), .val (.ref b32), .val (.int (1 : Int32)), .unset] [])) (fun t k => XS.ifNo X32.here hx rfl (hb hby at_138) rfl ((if0 _ _).trans (feq (by decide)).1) k) ?_
    refine own_by (B := T32.setTop (mkF m 143 #[.val (.int i0), .val (.int i1), .val (.int i2), .val (.int i3), .val (.int i4), .val (.int i5), .val (.int (Int32.ofNat cap)), .val (.int (3 : Int32)), .val (.ref b27), .val (.ref b32), .val (.int (1 : Int32)), .unset] [(.ref b32)])) (fun t k => XS.aload X32.here hx rfl (hb hby at_141) rfl rfl k) ?_
    refine own_by (B := T32.setTop (mkF m 144 #[.val (.int i0), .val (.int i1), .val (.int i2), .val (.int i3), .val (.int i4), .val (.int i5), .val (.int (Int32.ofNat cap)), .val (.int (3 : Int32)), .val (.ref b27), .val (.ref b32), .val (.int (1 : Int32)), .unset] [(.int (1 : Int32)), (.ref b32)])) (fun t k => XS.iconst X32.here hx rfl (hb hby at_143) k) ?_
    obtain ⟨cl35, Ar35, hin35, hat35⟩ := V_b32.at (j := (1 : Int32)) ⟨by decide, by decide⟩
    have hat35 := hat35.trans (congrArg some (show _ = (.int i2) from hg32_1))
    refine own_by (B := T32.setTop (mkF m 145 #[.val (.int i0), .val (.int i1), .val (.int i2), .val (.int i3), .val (.int i4), .val (.int i5), .val (.int (Int32.ofNat cap)), .val (.int (3 : Int32)), .val (.ref b27), .val (.ref b32), .val (.int (1 : Int32)), .unset] [(.int i2)])) (fun t k => X32.iaload hx (j := (1 : Int32)) (v := (.int i2)) Ar35.1 (State.isArrayOf_alike hZ.alike Ar35.2.1) Ar35.2.2 hin35 hat35 (g := (mkF m 144 #[.val (.int i0), .val (.int i1), .val (.int i2), .val (.int i3), .val (.int i4), .val (.int i5), .val (.int (Int32.ofNat cap)), .val (.int (3 : Int32)), .val (.ref b27), .val (.ref b32), .val (.int (1 : Int32)), .unset] [(.int (1 : Int32)), (.ref b32)])) rfl rfl (hb hby at_144) _ k) ?_
    refine own_by (B := T32.setTop (mkF m 146 #[.val (.int i0), .val (.int i1), .val (.int i2), .val (.int i3), .val (.int i4), .val (.int i5), .val (.int (Int32.ofNat cap)), .val (.int (3 : Int32)), .val (.ref b27), .val (.ref b32), .val (.int (1 : Int32)), .unset] [(.int i2), (.int i2)])) (fun t k => XS.iloadN X32.here hx rfl (hb hby at_145) rfl k) ?_
    refine own_by (B := T32.setTop (mkF m 149 #[.val (.int i0), .val (.int i1), .val (.int i2), .val (.int i3), .val (.int i4), .val (.int i5), .val (.int (Int32.ofNat cap)), .val (.int (3 : Int32)), .val (.ref b27), .val (.ref b32), .val (.int (1 : Int32)), .unset] [])) (fun t k => XS.icmpNo X32.here hx rfl (hb hby at_146) rfl (teq rfl).2 k) ?_
    refine own_by (B := T32.setTop (mkF m 150 #[.val (.int i0), .val (.int i1), .val (.int i2), .val (.int i3), .val (.int i4), .val (.int i5), .val (.int (Int32.ofNat cap)), .val (.int (3 : Int32)), .val (.ref b27), .val (.ref b32), .val (.int (1 : Int32)), .unset] [(.int (1 : Int32))])) (fun t k => XS.iconst X32.here hx rfl (hb hby at_149) k) ?_
    refine own_by (B := T32.setTop (mkF m 154 #[.val (.int i0), .val (.int i1), .val (.int i2), .val (.int i3), .val (.int i4), .val (.int i5), .val (.int (Int32.ofNat cap)), .val (.int (3 : Int32)), .val (.ref b27), .val (.ref b32), .val (.int (1 : Int32)), .unset] [(.int (1 : Int32))])) (fun t k => XS.goto X32.here hx rfl (pc0 := 150) (pc' := 154) rfl (hb hby at_150) (by decide) (by decide) k) ?_
    refine own_by (B := T32.setTop (mkF m 156 #[.val (.int i0), .val (.int i1), .val (.int i2), .val (.int i3), .val (.int i4), .val (.int i5), .val (.int (Int32.ofNat cap)), .val (.int (3 : Int32)), .val (.ref b27), .val (.ref b32), .val (.int (1 : Int32)), .unset] [])) (fun t k => XS.istore X32.here hx rfl (hb hby at_154) rfl (l' := #[.val (.int i0), .val (.int i1), .val (.int i2), .val (.int i3), .val (.int i4), .val (.int i5), .val (.int (Int32.ofNat cap)), .val (.int (3 : Int32)), .val (.ref b27), .val (.ref b32), .val (.int (1 : Int32)), .unset]) rfl k) ?_
    refine own_by (B := T32.setTop (mkF m 158 #[.val (.int i0), .val (.int i1), .val (.int i2), .val (.int i3), .val (.int i4), .val (.int i5), .val (.int (Int32.ofNat cap)), .val (.int (3 : Int32)), .val (.ref b27), .val (.ref b32), .val (.int (1 : Int32)), .unset] [(.int (3 : Int32))])) (fun t k => XS.iload X32.here hx rfl (hb hby at_156) rfl k) ?_
    refine own_by (B := T32.setTop (mkF m 159 #[.val (.int i0), .val (.int i1), .val (.int i2), .val (.int i3), .val (.int i4), .val (.int i5), .val (.int (Int32.ofNat cap)), .val (.int (3 : Int32)), .val (.ref b27), .val (.ref b32), .val (.int (1 : Int32)), .unset] [(.int (2 : Int32)), (.int (3 : Int32))])) (fun t k => XS.iconst X32.here hx rfl (hb hby at_158) k) ?_
    refine own_by (B := T32.setTop (mkF m 162 #[.val (.int i0), .val (.int i1), .val (.int i2), .val (.int i3), .val (.int i4), .val (.int i5), .val (.int (Int32.ofNat cap)), .val (.int (3 : Int32)), .val (.ref b27), .val (.ref b32), .val (.int (1 : Int32)), .unset] [])) (fun t k => XS.icmpNo X32.here hx rfl (hb hby at_159) rfl (tlt (by decide)).2.2.2 k) ?_
    refine own_by (B := T32.setTop (mkF m 164 #[.val (.int i0), .val (.int i1), .val (.int i2), .val (.int i3), .val (.int i4), .val (.int i5), .val (.int (Int32.ofNat cap)), .val (.int (3 : Int32)), .val (.ref b27), .val (.ref b32), .val (.int (1 : Int32)), .unset] [(.int (1 : Int32))])) (fun t k => XS.iload X32.here hx rfl (hb hby at_162) rfl k) ?_
    refine own_by (B := T32.setTop (mkF m 167 #[.val (.int i0), .val (.int i1), .val (.int i2), .val (.int i3), .val (.int i4), .val (.int i5), .val (.int (Int32.ofNat cap)), .val (.int (3 : Int32)), .val (.ref b27), .val (.ref b32), .val (.int (1 : Int32)), .unset] [])) (fun t k => XS.ifNo X32.here hx rfl (hb hby at_164) rfl ((if0 _ _).trans (feq (by decide)).1) k) ?_
    refine own_by (B := T32.setTop (mkF m 169 #[.val (.int i0), .val (.int i1), .val (.int i2), .val (.int i3), .val (.int i4), .val (.int i5), .val (.int (Int32.ofNat cap)), .val (.int (3 : Int32)), .val (.ref b27), .val (.ref b32), .val (.int (1 : Int32)), .unset] [(.ref b32)])) (fun t k => XS.aload X32.here hx rfl (hb hby at_167) rfl rfl k) ?_
    refine own_by (B := T32.setTop (mkF m 170 #[.val (.int i0), .val (.int i1), .val (.int i2), .val (.int i3), .val (.int i4), .val (.int i5), .val (.int (Int32.ofNat cap)), .val (.int (3 : Int32)), .val (.ref b27), .val (.ref b32), .val (.int (1 : Int32)), .unset] [(.int (2 : Int32)), (.ref b32)])) (fun t k => XS.iconst X32.here hx rfl (hb hby at_169) k) ?_
    obtain ⟨cl36, Ar36, hin36, hat36⟩ := V_b32.at (j := (2 : Int32)) ⟨by decide, by decide⟩
    have hat36 := hat36.trans (congrArg some (show _ = (.int i3) from hg32_2))
    refine own_by (B := T32.setTop (mkF m 171 #[.val (.int i0), .val (.int i1), .val (.int i2), .val (.int i3), .val (.int i4), .val (.int i5), .val (.int (Int32.ofNat cap)), .val (.int (3 : Int32)), .val (.ref b27), .val (.ref b32), .val (.int (1 : Int32)), .unset] [(.int i3)])) (fun t k => X32.iaload hx (j := (2 : Int32)) (v := (.int i3)) Ar36.1 (State.isArrayOf_alike hZ.alike Ar36.2.1) Ar36.2.2 hin36 hat36 (g := (mkF m 170 #[.val (.int i0), .val (.int i1), .val (.int i2), .val (.int i3), .val (.int i4), .val (.int i5), .val (.int (Int32.ofNat cap)), .val (.int (3 : Int32)), .val (.ref b27), .val (.ref b32), .val (.int (1 : Int32)), .unset] [(.int (2 : Int32)), (.ref b32)])) rfl rfl (hb hby at_170) _ k) ?_
    refine own_by (B := T32.setTop (mkF m 172 #[.val (.int i0), .val (.int i1), .val (.int i2), .val (.int i3), .val (.int i4), .val (.int i5), .val (.int (Int32.ofNat cap)), .val (.int (3 : Int32)), .val (.ref b27), .val (.ref b32), .val (.int (1 : Int32)), .unset] [(.int i3), (.int i3)])) (fun t k => XS.iloadN X32.here hx rfl (hb hby at_171) rfl k) ?_
    refine own_by (B := T32.setTop (mkF m 175 #[.val (.int i0), .val (.int i1), .val (.int i2), .val (.int i3), .val (.int i4), .val (.int i5), .val (.int (Int32.ofNat cap)), .val (.int (3 : Int32)), .val (.ref b27), .val (.ref b32), .val (.int (1 : Int32)), .unset] [])) (fun t k => XS.icmpNo X32.here hx rfl (hb hby at_172) rfl (teq rfl).2 k) ?_
    refine own_by (B := T32.setTop (mkF m 176 #[.val (.int i0), .val (.int i1), .val (.int i2), .val (.int i3), .val (.int i4), .val (.int i5), .val (.int (Int32.ofNat cap)), .val (.int (3 : Int32)), .val (.ref b27), .val (.ref b32), .val (.int (1 : Int32)), .unset] [(.int (1 : Int32))])) (fun t k => XS.iconst X32.here hx rfl (hb hby at_175) k) ?_
    refine own_by (B := T32.setTop (mkF m 180 #[.val (.int i0), .val (.int i1), .val (.int i2), .val (.int i3), .val (.int i4), .val (.int i5), .val (.int (Int32.ofNat cap)), .val (.int (3 : Int32)), .val (.ref b27), .val (.ref b32), .val (.int (1 : Int32)), .unset] [(.int (1 : Int32))])) (fun t k => XS.goto X32.here hx rfl (pc0 := 176) (pc' := 180) rfl (hb hby at_176) (by decide) (by decide) k) ?_
    refine own_by (B := T32.setTop (mkF m 182 #[.val (.int i0), .val (.int i1), .val (.int i2), .val (.int i3), .val (.int i4), .val (.int i5), .val (.int (Int32.ofNat cap)), .val (.int (3 : Int32)), .val (.ref b27), .val (.ref b32), .val (.int (1 : Int32)), .unset] [])) (fun t k => XS.istore X32.here hx rfl (hb hby at_180) rfl (l' := #[.val (.int i0), .val (.int i1), .val (.int i2), .val (.int i3), .val (.int i4), .val (.int i5), .val (.int (Int32.ofNat cap)), .val (.int (3 : Int32)), .val (.ref b27), .val (.ref b32), .val (.int (1 : Int32)), .unset]) rfl k) ?_
    refine own_by (B := T32.setTop (mkF m 184 #[.val (.int i0), .val (.int i1), .val (.int i2), .val (.int i3), .val (.int i4), .val (.int i5), .val (.int (Int32.ofNat cap)), .val (.int (3 : Int32)), .val (.ref b27), .val (.ref b32), .val (.int (1 : Int32)), .unset] [(.int (3 : Int32))])) (fun t k => XS.iload X32.here hx rfl (hb hby at_182) rfl k) ?_
    refine own_by (B := T32.setTop (mkF m 185 #[.val (.int i0), .val (.int i1), .val (.int i2), .val (.int i3), .val (.int i4), .val (.int i5), .val (.int (Int32.ofNat cap)), .val (.int (3 : Int32)), .val (.ref b27), .val (.ref b32), .val (.int (1 : Int32)), .unset] [(.int (3 : Int32)), (.int (3 : Int32))])) (fun t k => XS.iconst X32.here hx rfl (hb hby at_184) k) ?_
    refine own_by (B := T32.setTop (mkF m 209 #[.val (.int i0), .val (.int i1), .val (.int i2), .val (.int i3), .val (.int i4), .val (.int i5), .val (.int (Int32.ofNat cap)), .val (.int (3 : Int32)), .val (.ref b27), .val (.ref b32), .val (.int (1 : Int32)), .unset] [])) (fun t k => XS.icmpYes X32.here hx rfl (pc0 := 185) (pc' := 209) rfl (hb hby at_185) rfl (flt (by decide)).2.2.2 (by decide) (by decide) k) ?_
    refine own_by (B := T32.setTop (mkF m 211 #[.val (.int i0), .val (.int i1), .val (.int i2), .val (.int i3), .val (.int i4), .val (.int i5), .val (.int (Int32.ofNat cap)), .val (.int (3 : Int32)), .val (.ref b27), .val (.ref b32), .val (.int (1 : Int32)), .unset] [(.int (3 : Int32))])) (fun t k => XS.iload X32.here hx rfl (hb hby at_209) rfl k) ?_
    refine own_by (B := T32.setTop (mkF m 214 #[.val (.int i0), .val (.int i1), .val (.int i2), .val (.int i3), .val (.int i4), .val (.int i5), .val (.int (Int32.ofNat cap)), .val (.int (3 : Int32)), .val (.ref b27), .val (.ref b32), .val (.int (1 : Int32)), .unset] [])) (fun t k => XS.ifNo X32.here hx rfl (hb hby at_211) rfl ((if0 _ _).trans (tlt (by decide)).2.2.2) k) ?_
    refine own_by (B := T32.setTop (mkF m 216 #[.val (.int i0), .val (.int i1), .val (.int i2), .val (.int i3), .val (.int i4), .val (.int i5), .val (.int (Int32.ofNat cap)), .val (.int (3 : Int32)), .val (.ref b27), .val (.ref b32), .val (.int (1 : Int32)), .unset] [(.ref b32)])) (fun t k => XS.aload X32.here hx rfl (hb hby at_214) rfl rfl k) ?_
    refine own_by (B := T32.setTop (mkF m 217 #[.val (.int i0), .val (.int i1), .val (.int i2), .val (.int i3), .val (.int i4), .val (.int i5), .val (.int (Int32.ofNat cap)), .val (.int (3 : Int32)), .val (.ref b27), .val (.ref b32), .val (.int (1 : Int32)), .unset] [(.int (0 : Int32)), (.ref b32)])) (fun t k => XS.iconst X32.here hx rfl (hb hby at_216) k) ?_
    refine own_by (B := T32.setTop (mkF m 218 #[.val (.int i0), .val (.int i1), .val (.int i2), .val (.int i3), .val (.int i4), .val (.int i5), .val (.int (Int32.ofNat cap)), .val (.int (3 : Int32)), .val (.ref b27), .val (.ref b32), .val (.int (1 : Int32)), .unset] [(.int i1), (.int (0 : Int32)), (.ref b32)])) (fun t k => XS.iloadN X32.here hx rfl (hb hby at_217) rfl k) ?_
    refine own_by (B := T32.setTop (mkF m 219 #[.val (.int i0), .val (.int i1), .val (.int i2), .val (.int i3), .val (.int i4), .val (.int i5), .val (.int (Int32.ofNat cap)), .val (.int (3 : Int32)), .val (.ref b27), .val (.ref b32), .val (.int (1 : Int32)), .unset] [(.int (-1 : Int32)), (.int i1), (.int (0 : Int32)), (.ref b32)])) (fun t k => XS.iconst X32.here hx rfl (hb hby at_218) k) ?_
    refine own_by (B := T32.setTop (mkF m 220 #[.val (.int i0), .val (.int i1), .val (.int i2), .val (.int i3), .val (.int i4), .val (.int i5), .val (.int (Int32.ofNat cap)), .val (.int (3 : Int32)), .val (.ref b27), .val (.ref b32), .val (.int (1 : Int32)), .unset] [(.int (i1 ^^^ (-1 : Int32))), (.int (0 : Int32)), (.ref b32)])) (fun t k => XS.ixor X32.here hx rfl (hb hby at_219) rfl k) ?_
    obtain ⟨cl37, Ar37, hin37, -⟩ := V_b32.at (j := (0 : Int32)) ⟨by decide, by decide⟩
    obtain ⟨T37, h37, X37, e37, W37, st37⟩ := stI X32 hx hZ rfl Ar37 (j := (0 : Int32)) hin37 (g := (mkF m 220 #[.val (.int i0), .val (.int i1), .val (.int i2), .val (.int i3), .val (.int i4), .val (.int i5), .val (.int (Int32.ofNat cap)), .val (.int (3 : Int32)), .val (.ref b27), .val (.ref b32), .val (.int (1 : Int32)), .unset] [(.int (i1 ^^^ (-1 : Int32))), (.int (0 : Int32)), (.ref b32)])) rfl rfl (hb hby at_220)
    have E_b27 := E_b27.wr W37
    have F_size_b27 := F_size_b27.other W37 (Or.inl ne_b27_b32)
    have F_entries_b27 := F_entries_b27.other W37 (Or.inl ne_b27_b32)
    have V_b31 := V_b31.other W37 ne_b31_b32
    have V_b32 := V_b32.set W37
    have Zs : n0 ≤ h37.size := by rw [W37.size]; exact Zs
    have Nf := Fr.snoc X37 Nf g_b32
    refine own_by (B := T37.setTop (mkF m 221 #[.val (.int i0), .val (.int i1), .val (.int i2), .val (.int i3), .val (.int i4), .val (.int i5), .val (.int (Int32.ofNat cap)), .val (.int (3 : Int32)), .val (.ref b27), .val (.ref b32), .val (.int (1 : Int32)), .unset] [])) st37 ?_
    refine own_by (B := T37.setTop (mkF m 223 #[.val (.int i0), .val (.int i1), .val (.int i2), .val (.int i3), .val (.int i4), .val (.int i5), .val (.int (Int32.ofNat cap)), .val (.int (3 : Int32)), .val (.ref b27), .val (.ref b32), .val (.int (1 : Int32)), .unset] [(.ref b27)])) (fun t k => XS.aload X37.here hx rfl (hb hby at_221) rfl rfl k) ?_
    obtain ⟨cq38, kq38, q38a, q38b, q38c⟩ := isOf hZ e37 E_b27
    obtain ⟨_, _, ⟨T38, L38, k38, n38⟩, -, X38, ⟨Lc38, hQ38, l38, y38, z38⟩, st38⟩ := X37.virtualBack hx (y := (⟨"com/example/surrogate/surrogate/index/Entries", "numbers", "()[I"⟩ : MethodName)) (z := (⟨"com/example/surrogate/surrogate/index/Entries", "numbers", "()[I"⟩ : MethodName)) hown (mvT hZ (hw _ (List.mem_of_getElem? (i := 12) rfl))) (mvT hZ (hw _ (List.mem_of_getElem? (i := 13) rfl))) (notFace_of_selects (args := #[]) (mvT hZ (hw _ (List.mem_of_getElem? (i := 15) rfl)))) (mvT hZ (hw _ (List.mem_of_getElem? (i := 15) rfl))) (mvT hZ (hw _ (List.mem_of_getElem? (i := 14) rfl))) (by decide) (backOf (W := 0) (rmF3 l Z a0 hw [] b27 b31 mz31 f31 i1 i2 i3 h37 n0 Zs F_size_b27 F_entries_b27 V_b31 ne_b27_b31 (by omega) (by omega) hA31_0 hA31_1 hA31_2) hZ (hw _ (List.mem_of_getElem? (i := 16) rfl)) (hw _ (List.mem_of_getElem? (i := 2) rfl)) (by decide) (by decide)) q38a q38c (g := (mkF m 223 #[.val (.int i0), .val (.int i1), .val (.int i2), .val (.int i3), .val (.int i4), .val (.int i5), .val (.int (Int32.ofNat cap)), .val (.int (3 : Int32)), .val (.ref b27), .val (.ref b32), .val (.int (1 : Int32)), .unset] [(.ref b27)])) rfl (by rw [hml]; rfl) (Steps.refl _) (argsL := []) (rest := []) (lenOf own_pd3 rfl) rfl (by show 2 * 0 + _ ≤ _; exact Nat.le_of_eq rfl) (hb hby at_223) (fun _ _ => ⟨rfl, e37, (by decide : 6 + 1 ≤ _), (by decide : 47 + 3 ≤ _)⟩)
    dsimp only [Pt.U, Pt.locs, Pt.cells, Pt.slots] at X38 l38 y38 z38 st38 hQ38
    subst l38 y38 z38
    obtain ⟨rfl, Nq38, Kc38, g38, Vc38, hg38_0, hg38_1, hg38_2⟩ := hQ38
    have Nf := Fr.app Nf Nq38
    obtain ⟨b38, gq38⟩ : ∃ z, z = h37.size := ⟨_, rfl⟩
    rw [← gq38] at Vc38 st38
    have ne_b27_b38 : b27 ≠ b38 := Nat.ne_of_lt (Nat.lt_of_lt_of_le E_b27.lt (Nat.le_of_eq gq38.symm))
    have ne_b31_b38 : b31 ≠ b38 := Nat.ne_of_lt (Nat.lt_of_lt_of_le V_b31.lt (Nat.le_of_eq gq38.symm))
    have ne_b32_b38 : b32 ≠ b38 := Nat.ne_of_lt (Nat.lt_of_lt_of_le V_b32.lt (Nat.le_of_eq gq38.symm))
    have g_b38 : n0 ≤ b38 := Nat.le_trans Zs (Nat.le_of_eq gq38.symm)
    have E_b27 := E_b27.keep Kc38
    have F_size_b27 := F_size_b27.keep Kc38 nin0
    have F_entries_b27 := F_entries_b27.keep Kc38 nin0
    have V_b31 := V_b31.keep Kc38 nin0
    have V_b32 := V_b32.keep Kc38 nin0
    have Zs := Nat.le_trans Zs Kc38.1
    have V_b38 := Vc38
    refine own_by (B := T38.setTop (mkF m 226 #[.val (.int i0), .val (.int i1), .val (.int i2), .val (.int i3), .val (.int i4), .val (.int i5), .val (.int (Int32.ofNat cap)), .val (.int (3 : Int32)), .val (.ref b27), .val (.ref b32), .val (.int (1 : Int32)), .unset] [(.ref b38)])) (fun t k => st38.trans k) ?_
    refine own_by (B := T38.setTop (mkF m 228 #[.val (.int i0), .val (.int i1), .val (.int i2), .val (.int i3), .val (.int i4), .val (.int i5), .val (.int (Int32.ofNat cap)), .val (.int (3 : Int32)), .val (.ref b27), .val (.ref b32), .val (.int (1 : Int32)), .val (.ref b38)] [])) (fun t k => XS.astore X38.here hx rfl (hb hby at_226) rfl rfl (l' := #[.val (.int i0), .val (.int i1), .val (.int i2), .val (.int i3), .val (.int i4), .val (.int i5), .val (.int (Int32.ofNat cap)), .val (.int (3 : Int32)), .val (.ref b27), .val (.ref b32), .val (.int (1 : Int32)), .val (.ref b38)]) rfl k) ?_
    refine own_by (B := T38.setTop (mkF m 230 #[.val (.int i0), .val (.int i1), .val (.int i2), .val (.int i3), .val (.int i4), .val (.int i5), .val (.int (Int32.ofNat cap)), .val (.int (3 : Int32)), .val (.ref b27), .val (.ref b32), .val (.int (1 : Int32)), .val (.ref b38)] [(.ref b38)])) (fun t k => XS.aload X38.here hx rfl (hb hby at_228) rfl rfl k) ?_
    refine own_by (B := T38.setTop (mkF m 232 #[.val (.int i0), .val (.int i1), .val (.int i2), .val (.int i3), .val (.int i4), .val (.int i5), .val (.int (Int32.ofNat cap)), .val (.int (3 : Int32)), .val (.ref b27), .val (.ref b32), .val (.int (1 : Int32)), .val (.ref b38)] [(.ref b32), (.ref b38)])) (fun t k => XS.aload X38.here hx rfl (hb hby at_230) rfl rfl k) ?_
    refine own_by (B := T38.setTop (mkF m 235 #[.val (.int i0), .val (.int i1), .val (.int i2), .val (.int i3), .val (.int i4), .val (.int i5), .val (.int (Int32.ofNat cap)), .val (.int (3 : Int32)), .val (.ref b27), .val (.ref b32), .val (.int (1 : Int32)), .val (.ref b38)] [])) (fun t k => Jvm.RoadKit.acmp (g := (mkF m 232 #[.val (.int i0), .val (.int i1), .val (.int i2), .val (.int i3), .val (.int i4), .val (.int i5), .val (.int (Int32.ofNat cap)), .val (.int (3 : Int32)), .val (.ref b27), .val (.ref b32), .val (.int (1 : Int32)), .val (.ref b38)] [(.ref b32), (.ref b38)])) X38 hx rfl rfl rfl (pc0 := 232) (pc' := 235) (same := false) rfl (hb hby at_232) rfl (decide_eq_false fun q => (Ne.symm ne_b32_b38) (Value.ref.inj q)) (by decide) (by decide) k) ?_
    refine own_by (B := T38.setTop (mkF m 237 #[.val (.int i0), .val (.int i1), .val (.int i2), .val (.int i3), .val (.int i4), .val (.int i5), .val (.int (Int32.ofNat cap)), .val (.int (3 : Int32)), .val (.ref b27), .val (.ref b32), .val (.int (1 : Int32)), .val (.ref b38)] [(.ref b38)])) (fun t k => XS.aload X38.here hx rfl (hb hby at_235) rfl rfl k) ?_
    obtain ⟨cl39, Ar39, Sz39, Ng39, -⟩ := id V_b38
    refine own_by (B := T38.setTop (mkF m 238 #[.val (.int i0), .val (.int i1), .val (.int i2), .val (.int i3), .val (.int i4), .val (.int i5), .val (.int (Int32.ofNat cap)), .val (.int (3 : Int32)), .val (.ref b27), .val (.ref b32), .val (.int (1 : Int32)), .val (.ref b38)] [(.int (3 : Int32))])) (fun t k => X38.arraylength hx Ar39.1 (State.isArrayOf_alike hZ.alike Ar39.2.1) (g := (mkF m 237 #[.val (.int i0), .val (.int i1), .val (.int i2), .val (.int i3), .val (.int i4), .val (.int i5), .val (.int (Int32.ofNat cap)), .val (.int (3 : Int32)), .val (.ref b27), .val (.ref b32), .val (.int (1 : Int32)), .val (.ref b38)] [(.ref b38)])) rfl rfl (hb hby at_237) _ (by rw [len_of Sz39 Ng39]; exact k)) ?_
    refine own_by (B := T38.setTop (mkF m 240 #[.val (.int i0), .val (.int i1), .val (.int i2), .val (.int i3), .val (.int i4), .val (.int i5), .val (.int (Int32.ofNat cap)), .val (.int (3 : Int32)), .val (.ref b27), .val (.ref b32), .val (.int (1 : Int32)), .val (.ref b38)] [(.int (3 : Int32)), (.int (3 : Int32))])) (fun t k => XS.iload X38.here hx rfl (hb hby at_238) rfl k) ?_
    refine own_by (B := T38.setTop (mkF m 243 #[.val (.int i0), .val (.int i1), .val (.int i2), .val (.int i3), .val (.int i4), .val (.int i5), .val (.int (Int32.ofNat cap)), .val (.int (3 : Int32)), .val (.ref b27), .val (.ref b32), .val (.int (1 : Int32)), .val (.ref b38)] [])) (fun t k => XS.icmpNo X38.here hx rfl (hb hby at_240) rfl (teq (by decide)).2 k) ?_
    refine own_by (B := T38.setTop (mkF m 245 #[.val (.int i0), .val (.int i1), .val (.int i2), .val (.int i3), .val (.int i4), .val (.int i5), .val (.int (Int32.ofNat cap)), .val (.int (3 : Int32)), .val (.ref b27), .val (.ref b32), .val (.int (1 : Int32)), .val (.ref b38)] [(.ref b38)])) (fun t k => XS.aload X38.here hx rfl (hb hby at_243) rfl rfl k) ?_
    refine own_by (B := T38.setTop (mkF m 246 #[.val (.int i0), .val (.int i1), .val (.int i2), .val (.int i3), .val (.int i4), .val (.int i5), .val (.int (Int32.ofNat cap)), .val (.int (3 : Int32)), .val (.ref b27), .val (.ref b32), .val (.int (1 : Int32)), .val (.ref b38)] [(.int (0 : Int32)), (.ref b38)])) (fun t k => XS.iconst X38.here hx rfl (hb hby at_245) k) ?_
    obtain ⟨cl40, Ar40, hin40, hat40⟩ := V_b38.at (j := (0 : Int32)) ⟨by decide, by decide⟩
    have hat40 := hat40.trans (congrArg some (show _ = (.int i1) from hg38_0))
    refine own_by (B := T38.setTop (mkF m 247 #[.val (.int i0), .val (.int i1), .val (.int i2), .val (.int i3), .val (.int i4), .val (.int i5), .val (.int (Int32.ofNat cap)), .val (.int (3 : Int32)), .val (.ref b27), .val (.ref b32), .val (.int (1 : Int32)), .val (.ref b38)] [(.int i1)])) (fun t k => X38.iaload hx (j := (0 : Int32)) (v := (.int i1)) Ar40.1 (State.isArrayOf_alike hZ.alike Ar40.2.1) Ar40.2.2 hin40 hat40 (g := (mkF m 246 #[.val (.int i0), .val (.int i1), .val (.int i2), .val (.int i3), .val (.int i4), .val (.int i5), .val (.int (Int32.ofNat cap)), .val (.int (3 : Int32)), .val (.ref b27), .val (.ref b32), .val (.int (1 : Int32)), .val (.ref b38)] [(.int (0 : Int32)), (.ref b38)])) rfl rfl (hb hby at_246) _ k) ?_
    refine own_by (B := T38.setTop (mkF m 248 #[.val (.int i0), .val (.int i1), .val (.int i2), .val (.int i3), .val (.int i4), .val (.int i5), .val (.int (Int32.ofNat cap)), .val (.int (3 : Int32)), .val (.ref b27), .val (.ref b32), .val (.int (1 : Int32)), .val (.ref b38)] [(.int i1), (.int i1)])) (fun t k => XS.iloadN X38.here hx rfl (hb hby at_247) rfl k) ?_
    refine own_by (B := T38.setTop (mkF m 253 #[.val (.int i0), .val (.int i1), .val (.int i2), .val (.int i3), .val (.int i4), .val (.int i5), .val (.int (Int32.ofNat cap)), .val (.int (3 : Int32)), .val (.ref b27), .val (.ref b32), .val (.int (1 : Int32)), .val (.ref b38)] [])) (fun t k => XS.icmpYes X38.here hx rfl (pc0 := 248) (pc' := 253) rfl (hb hby at_248) rfl (teq rfl).1 (by decide) (by decide) k) ?_
    refine own_by (B := T38.setTop (mkF m 255 #[.val (.int i0), .val (.int i1), .val (.int i2), .val (.int i3), .val (.int i4), .val (.int i5), .val (.int (Int32.ofNat cap)), .val (.int (3 : Int32)), .val (.ref b27), .val (.ref b32), .val (.int (1 : Int32)), .val (.ref b38)] [(.int (1 : Int32))])) (fun t k => XS.iload X38.here hx rfl (hb hby at_253) rfl k) ?_
    exact own_end X38 (v := some (.int (1 : Int32))) (fun h => by rw [Bd.returns] at h; cases h) (BodyLoose.notSynchronized Bd) (Q := (Q_rm0 Z i0 i1 i2 i3 i4 i5 h0 n0)) (fun fs hr => retN X38 hx (t := .boolean) Bd.returns (by simp) (hb hby at_255) hr) (show (Q_rm0 Z i0 i1 i2 i3 i4 i5 h0 n0) _ T38.heap _ from (⟨rfl, Nf⟩)) (by decide) (by decide)
  · rw [hq]
    obtain ⟨T41, h41, X41, e41, E41, A41, D41, -, st41⟩ := newO X0 hx hZ hown (hw _ (List.mem_of_getElem? (i := 0) rfl)) (hw _ (List.mem_of_getElem? (i := 1) rfl)) (hw _ (List.mem_of_getElem? (i := 2) rfl)) e0 (g := (mkF m 12 #[.val (.int i0), .val (.int i1), .val (.int i2), .val (.int i3), .val (.int i4), .val (.int i5), .val (.int (Int32.ofNat cap)), .val (.int (4 : Int32)), .unset, .unset, .unset, .unset] [])) rfl (hb hby at_12) (by decide) (by decide)
    obtain ⟨b41, gq41⟩ : ∃ z, z = h0.size := ⟨_, rfl⟩
    rw [← gq41] at A41 D41 st41
    have g_b41 : n0 ≤ b41 := Nat.le_trans Zs (Nat.le_of_eq gq41.symm)
    have Zs := Nat.le_trans Zs E41.1
    have E_b41 := A41
    have F_entries_b41 : Fld Z h41 b41 "com/example/surrogate/surrogate/index/Entries" "entries" "[I" .null := D41 (Or.inl (hw _ (List.mem_of_getElem? (i := 11) rfl))) (ty := (.array .int)) (by decide)
    have F_size_b41 : Fld Z h41 b41 "com/example/surrogate/surrogate/index/Entries" "size" "I" (.int (0 : Int32)) := D41 (Or.inl (hw _ (List.mem_of_getElem? (i := 18) rfl))) (ty := .int) (by decide)
    refine own_by (B := T41.setTop (mkF m 15 #[.val (.int i0), .val (.int i1), .val (.int i2), .val (.int i3), .val (.int i4), .val (.int i5), .val (.int (Int32.ofNat cap)), .val (.int (4 : Int32)), .unset, .unset, .unset, .unset] [(.ref b41)])) st41 ?_
    refine own_by (B := T41.setTop (mkF m 16 #[.val (.int i0), .val (.int i1), .val (.int i2), .val (.int i3), .val (.int i4), .val (.int i5), .val (.int (Int32.ofNat cap)), .val (.int (4 : Int32)), .unset, .unset, .unset, .unset] [(.ref b41), (.ref b41)])) (fun t k => XS.dup X41.here hx rfl (hb hby at_15) rfl rfl k) ?_
    refine own_by (B := T41.setTop (mkF m 18 #[.val (.int i0), .val (.int i1), .val (.int i2), .val (.int i3), .val (.int i4), .val (.int i5), .val (.int (Int32.ofNat cap)), .val (.int (4 : Int32)), .unset, .unset, .unset, .unset] [(.int (Int32.ofNat cap)), (.ref b41), (.ref b41)])) (fun t k => XS.iload X41.here hx rfl (hb hby at_16) rfl k) ?_
    obtain ⟨_, _, ⟨T42, L42, k42, n42⟩, -, X42, ⟨Lc42, hQ42, l42, y42, z42⟩, st42⟩ := X41.specialBack hx (y := (⟨"com/example/surrogate/surrogate/index/Entries", "<init>", "(I)V"⟩ : MethodName)) rfl hown (mvT hZ (hw _ (List.mem_of_getElem? (i := 3) rfl))) (mvT hZ (hw _ (List.mem_of_getElem? (i := 4) rfl))) (mvT hZ (hw _ (List.mem_of_getElem? (i := 5) rfl))) (by decide) (backOf (W := 1) (rmI l Z a0 hw [] b41 cap h41 n0 Zs E_b41 F_size_b41 F_entries_b41 g_b41 hcap) hZ (hw _ (List.mem_of_getElem? (i := 5) rfl)) (hw _ (List.mem_of_getElem? (i := 2) rfl)) (by decide) (by decide)) (g := (mkF m 18 #[.val (.int i0), .val (.int i1), .val (.int i2), .val (.int i3), .val (.int i4), .val (.int i5), .val (.int (Int32.ofNat cap)), .val (.int (4 : Int32)), .unset, .unset, .unset, .unset] [(.int (Int32.ofNat cap)), (.ref b41), (.ref b41)])) rfl (by rw [hml]; rfl) (Steps.refl _) (a := b41) (argsL := [(.int (Int32.ofNat cap))]) (rest := [(.ref b41)]) (lenOf own_pd2 rfl) rfl (by show 2 * 0 + _ ≤ _; exact Nat.le_of_eq rfl) (hb hby at_18) (fun _ _ => ⟨rfl, e41, (by decide : 1 + 1 ≤ _), (by decide : 2 + 6 ≤ _)⟩)
    dsimp only [Pt.U, Pt.locs, Pt.cells, Pt.slots] at X42 l42 y42 z42 st42 hQ42
    subst l42 y42 z42
    obtain ⟨rfl, Nq42, Kc42, Fs42, b42, f42, g_b42, ne_b41_b42, Fe42, Vc42, hz42⟩ := hQ42
    have Nf := Fr.app Nf Nq42
    have E_b41 := E_b41.keep Kc42
    have Zs := Nat.le_trans Zs Kc42.1
    have F_size_b41 := Fs42
    have F_entries_b41 := Fe42
    have V_b42 := Vc42
    have hint42 : ∀ i, i < 2 * cap → ∃ x, f42 i = .int x := fun i _ => ⟨_, hz42 i⟩
    refine own_by (B := T42.setTop (mkF m 21 #[.val (.int i0), .val (.int i1), .val (.int i2), .val (.int i3), .val (.int i4), .val (.int i5), .val (.int (Int32.ofNat cap)), .val (.int (4 : Int32)), .unset, .unset, .unset, .unset] [(.ref b41)])) (fun t k => st42.trans k) ?_
    refine own_by (B := T42.setTop (mkF m 23 #[.val (.int i0), .val (.int i1), .val (.int i2), .val (.int i3), .val (.int i4), .val (.int i5), .val (.int (Int32.ofNat cap)), .val (.int (4 : Int32)), .val (.ref b41), .unset, .unset, .unset] [])) (fun t k => XS.astore X42.here hx rfl (hb hby at_21) rfl rfl (l' := #[.val (.int i0), .val (.int i1), .val (.int i2), .val (.int i3), .val (.int i4), .val (.int i5), .val (.int (Int32.ofNat cap)), .val (.int (4 : Int32)), .val (.ref b41), .unset, .unset, .unset]) rfl k) ?_
    refine own_by (B := T42.setTop (mkF m 25 #[.val (.int i0), .val (.int i1), .val (.int i2), .val (.int i3), .val (.int i4), .val (.int i5), .val (.int (Int32.ofNat cap)), .val (.int (4 : Int32)), .val (.ref b41), .unset, .unset, .unset] [(.int (4 : Int32))])) (fun t k => XS.iload X42.here hx rfl (hb hby at_23) rfl k) ?_
    refine own_by (B := T42.setTop (mkF m 28 #[.val (.int i0), .val (.int i1), .val (.int i2), .val (.int i3), .val (.int i4), .val (.int i5), .val (.int (Int32.ofNat cap)), .val (.int (4 : Int32)), .val (.ref b41), .unset, .unset, .unset] [])) (fun t k => XS.ifNo X42.here hx rfl (hb hby at_25) rfl ((if0 _ _).trans (tlt (by decide)).2.2.2) k) ?_
    refine own_by (B := T42.setTop (mkF m 30 #[.val (.int i0), .val (.int i1), .val (.int i2), .val (.int i3), .val (.int i4), .val (.int i5), .val (.int (Int32.ofNat cap)), .val (.int (4 : Int32)), .val (.ref b41), .unset, .unset, .unset] [(.ref b41)])) (fun t k => XS.aload X42.here hx rfl (hb hby at_28) rfl rfl k) ?_
    refine own_by (B := T42.setTop (mkF m 31 #[.val (.int i0), .val (.int i1), .val (.int i2), .val (.int i3), .val (.int i4), .val (.int i5), .val (.int (Int32.ofNat cap)), .val (.int (4 : Int32)), .val (.ref b41), .unset, .unset, .unset] [(.int i1), (.ref b41)])) (fun t k => XS.iloadN X42.here hx rfl (hb hby at_30) rfl k) ?_
    refine own_by (B := T42.setTop (mkF m 33 #[.val (.int i0), .val (.int i1), .val (.int i2), .val (.int i3), .val (.int i4), .val (.int i5), .val (.int (Int32.ofNat cap)), .val (.int (4 : Int32)), .val (.ref b41), .unset, .unset, .unset] [(.int i5), (.int i1), (.ref b41)])) (fun t k => XS.iload X42.here hx rfl (hb hby at_31) rfl k) ?_
    obtain ⟨cq43, kq43, q43a, q43b, q43c⟩ := isOf hZ rfl E_b41
    obtain ⟨_, _, ⟨T43, L43, k43, n43⟩, -, X43, ⟨Lc43, hQ43, l43, y43, z43⟩, st43⟩ := X42.virtualBack hx (y := (⟨"com/example/surrogate/surrogate/index/Entries", "add", "(II)V"⟩ : MethodName)) (z := (⟨"com/example/surrogate/surrogate/index/Entries", "add", "(II)V"⟩ : MethodName)) hown (mvT hZ (hw _ (List.mem_of_getElem? (i := 19) rfl))) (mvT hZ (hw _ (List.mem_of_getElem? (i := 20) rfl))) (notFace_of_selects (args := #[]) (mvT hZ (hw _ (List.mem_of_getElem? (i := 22) rfl)))) (mvT hZ (hw _ (List.mem_of_getElem? (i := 22) rfl))) (mvT hZ (hw _ (List.mem_of_getElem? (i := 21) rfl))) (by decide) (backOf (W := 0) (rmA l Z a0 hw [] b41 i1 i5 b42 0 (2 * cap) f42 T42.heap n0 Zs E_b41 F_size_b41 F_entries_b41 V_b42 hint42 g_b41 g_b42 ne_b41_b42 (by omega) (by omega) (by omega) (by omega)) hZ (hw _ (List.mem_of_getElem? (i := 23) rfl)) (hw _ (List.mem_of_getElem? (i := 2) rfl)) (by decide) (by decide)) q43a q43c (g := (mkF m 33 #[.val (.int i0), .val (.int i1), .val (.int i2), .val (.int i3), .val (.int i4), .val (.int i5), .val (.int (Int32.ofNat cap)), .val (.int (4 : Int32)), .val (.ref b41), .unset, .unset, .unset] [(.int i5), (.int i1), (.ref b41)])) rfl (by rw [hml]; rfl) (Steps.refl _) (argsL := [(.int i1), (.int i5)]) (rest := []) (lenOf own_pd4 rfl) rfl (by show 2 * 0 + _ ≤ _; exact Nat.le_of_eq rfl) (hb hby at_33) (fun _ _ => ⟨rfl, rfl, (by decide : 2 + 1 ≤ _), (by decide : 8 + 12 ≤ _)⟩)
    dsimp only [Pt.U, Pt.locs, Pt.cells, Pt.slots] at X43 l43 y43 z43 st43 hQ43
    subst l43 y43 z43
    obtain ⟨rfl, Nq43, Kc43, Fs43, b43, mz43, f43, g_b43, ne_b41_b43, Fe43, Vc43, hma43, hmb43, hmc43, hne43, hnf43, hol43, hin43⟩ := hQ43
    have Nf := Fr.app Nf Nq43
    have E_b41 := E_b41.keep Kc43
    have Zs := Nat.le_trans Zs Kc43.1
    have F_size_b41 := Fs43
    have F_entries_b41 := Fe43
    have V_b43 := Vc43
    have hA43_0 : f43 0 = .int i1 := hne43
    have hB43_0 : f43 1 = .int i5 := hnf43
    refine own_by (B := T43.setTop (mkF m 36 #[.val (.int i0), .val (.int i1), .val (.int i2), .val (.int i3), .val (.int i4), .val (.int i5), .val (.int (Int32.ofNat cap)), .val (.int (4 : Int32)), .val (.ref b41), .unset, .unset, .unset] [])) (fun t k => st43.trans k) ?_
    refine own_by (B := T43.setTop (mkF m 38 #[.val (.int i0), .val (.int i1), .val (.int i2), .val (.int i3), .val (.int i4), .val (.int i5), .val (.int (Int32.ofNat cap)), .val (.int (4 : Int32)), .val (.ref b41), .unset, .unset, .unset] [(.int (4 : Int32))])) (fun t k => XS.iload X43.here hx rfl (hb hby at_36) rfl k) ?_
    refine own_by (B := T43.setTop (mkF m 39 #[.val (.int i0), .val (.int i1), .val (.int i2), .val (.int i3), .val (.int i4), .val (.int i5), .val (.int (Int32.ofNat cap)), .val (.int (4 : Int32)), .val (.ref b41), .unset, .unset, .unset] [(.int (1 : Int32)), (.int (4 : Int32))])) (fun t k => XS.iconst X43.here hx rfl (hb hby at_38) k) ?_
    refine own_by (B := T43.setTop (mkF m 42 #[.val (.int i0), .val (.int i1), .val (.int i2), .val (.int i3), .val (.int i4), .val (.int i5), .val (.int (Int32.ofNat cap)), .val (.int (4 : Int32)), .val (.ref b41), .unset, .unset, .unset] [])) (fun t k => XS.icmpNo X43.here hx rfl (hb hby at_39) rfl (tlt (by decide)).2.2.2 k) ?_
    refine own_by (B := T43.setTop (mkF m 44 #[.val (.int i0), .val (.int i1), .val (.int i2), .val (.int i3), .val (.int i4), .val (.int i5), .val (.int (Int32.ofNat cap)), .val (.int (4 : Int32)), .val (.ref b41), .unset, .unset, .unset] [(.ref b41)])) (fun t k => XS.aload X43.here hx rfl (hb hby at_42) rfl rfl k) ?_
    refine own_by (B := T43.setTop (mkF m 45 #[.val (.int i0), .val (.int i1), .val (.int i2), .val (.int i3), .val (.int i4), .val (.int i5), .val (.int (Int32.ofNat cap)), .val (.int (4 : Int32)), .val (.ref b41), .unset, .unset, .unset] [(.int i2), (.ref b41)])) (fun t k => XS.iloadN X43.here hx rfl (hb hby at_44) rfl k) ?_
    refine own_by (B := T43.setTop (mkF m 47 #[.val (.int i0), .val (.int i1), .val (.int i2), .val (.int i3), .val (.int i4), .val (.int i5), .val (.int (Int32.ofNat cap)), .val (.int (4 : Int32)), .val (.ref b41), .unset, .unset, .unset] [(.int i5), (.int i2), (.ref b41)])) (fun t k => XS.iload X43.here hx rfl (hb hby at_45) rfl k) ?_
    refine own_by (B := T43.setTop (mkF m 48 #[.val (.int i0), .val (.int i1), .val (.int i2), .val (.int i3), .val (.int i4), .val (.int i5), .val (.int (Int32.ofNat cap)), .val (.int (4 : Int32)), .val (.ref b41), .unset, .unset, .unset] [(.int (1 : Int32)), (.int i5), (.int i2), (.ref b41)])) (fun t k => XS.iconst X43.here hx rfl (hb hby at_47) k) ?_
    refine own_by (B := T43.setTop (mkF m 49 #[.val (.int i0), .val (.int i1), .val (.int i2), .val (.int i3), .val (.int i4), .val (.int i5), .val (.int (Int32.ofNat cap)), .val (.int (4 : Int32)), .val (.ref b41), .unset, .unset, .unset] [(.int (i5 + (1 : Int32))), (.int i2), (.ref b41)])) (fun t k => XS.iadd X43.here hx rfl (hb hby at_48) rfl k) ?_
    obtain ⟨cq44, kq44, q44a, q44b, q44c⟩ := isOf hZ rfl E_b41
    obtain ⟨_, _, ⟨T44, L44, k44, n44⟩, -, X44, ⟨Lc44, hQ44, l44, y44, z44⟩, st44⟩ := X43.virtualBack hx (y := (⟨"com/example/surrogate/surrogate/index/Entries", "add", "(II)V"⟩ : MethodName)) (z := (⟨"com/example/surrogate/surrogate/index/Entries", "add", "(II)V"⟩ : MethodName)) hown (mvT hZ (hw _ (List.mem_of_getElem? (i := 19) rfl))) (mvT hZ (hw _ (List.mem_of_getElem? (i := 20) rfl))) (notFace_of_selects (args := #[]) (mvT hZ (hw _ (List.mem_of_getElem? (i := 22) rfl)))) (mvT hZ (hw _ (List.mem_of_getElem? (i := 22) rfl))) (mvT hZ (hw _ (List.mem_of_getElem? (i := 21) rfl))) (by decide) (backOf (W := 0) (rmA l Z a0 hw [] b41 i2 (i5 + (1 : Int32)) b43 1 mz43 f43 T43.heap n0 Zs E_b41 F_size_b41 F_entries_b41 V_b43 hin43 g_b41 g_b43 ne_b41_b43 (by omega) (by omega) (by omega) (by omega)) hZ (hw _ (List.mem_of_getElem? (i := 23) rfl)) (hw _ (List.mem_of_getElem? (i := 2) rfl)) (by decide) (by decide)) q44a q44c (g := (mkF m 49 #[.val (.int i0), .val (.int i1), .val (.int i2), .val (.int i3), .val (.int i4), .val (.int i5), .val (.int (Int32.ofNat cap)), .val (.int (4 : Int32)), .val (.ref b41), .unset, .unset, .unset] [(.int (i5 + (1 : Int32))), (.int i2), (.ref b41)])) rfl (by rw [hml]; rfl) (Steps.refl _) (argsL := [(.int i2), (.int (i5 + (1 : Int32)))]) (rest := []) (lenOf own_pd4 rfl) rfl (by show 2 * 0 + _ ≤ _; exact Nat.le_of_eq rfl) (hb hby at_49) (fun _ _ => ⟨rfl, rfl, (by decide : 3 + 1 ≤ _), (by decide : 20 + 12 ≤ _)⟩)
    dsimp only [Pt.U, Pt.locs, Pt.cells, Pt.slots] at X44 l44 y44 z44 st44 hQ44
    subst l44 y44 z44
    obtain ⟨rfl, Nq44, Kc44, Fs44, b44, mz44, f44, g_b44, ne_b41_b44, Fe44, Vc44, hma44, hmb44, hmc44, hne44, hnf44, hol44, hin44⟩ := hQ44
    have Nf := Fr.app Nf Nq44
    have E_b41 := E_b41.keep Kc44
    have Zs := Nat.le_trans Zs Kc44.1
    have F_size_b41 := Fs44
    have F_entries_b41 := Fe44
    have V_b44 := Vc44
    have hA44_0 : f44 0 = .int i1 := (hol44 0 (by omega)).trans hA43_0
    have hB44_0 : f44 1 = .int i5 := (hol44 1 (by omega)).trans hB43_0
    have hA44_1 : f44 2 = .int i2 := hne44
    have hB44_1 : f44 3 = .int (i5 + (1 : Int32)) := hnf44
    refine own_by (B := T44.setTop (mkF m 52 #[.val (.int i0), .val (.int i1), .val (.int i2), .val (.int i3), .val (.int i4), .val (.int i5), .val (.int (Int32.ofNat cap)), .val (.int (4 : Int32)), .val (.ref b41), .unset, .unset, .unset] [])) (fun t k => st44.trans k) ?_
    refine own_by (B := T44.setTop (mkF m 54 #[.val (.int i0), .val (.int i1), .val (.int i2), .val (.int i3), .val (.int i4), .val (.int i5), .val (.int (Int32.ofNat cap)), .val (.int (4 : Int32)), .val (.ref b41), .unset, .unset, .unset] [(.int (4 : Int32))])) (fun t k => XS.iload X44.here hx rfl (hb hby at_52) rfl k) ?_
    refine own_by (B := T44.setTop (mkF m 55 #[.val (.int i0), .val (.int i1), .val (.int i2), .val (.int i3), .val (.int i4), .val (.int i5), .val (.int (Int32.ofNat cap)), .val (.int (4 : Int32)), .val (.ref b41), .unset, .unset, .unset] [(.int (2 : Int32)), (.int (4 : Int32))])) (fun t k => XS.iconst X44.here hx rfl (hb hby at_54) k) ?_
    refine own_by (B := T44.setTop (mkF m 58 #[.val (.int i0), .val (.int i1), .val (.int i2), .val (.int i3), .val (.int i4), .val (.int i5), .val (.int (Int32.ofNat cap)), .val (.int (4 : Int32)), .val (.ref b41), .unset, .unset, .unset] [])) (fun t k => XS.icmpNo X44.here hx rfl (hb hby at_55) rfl (tlt (by decide)).2.2.2 k) ?_
    refine own_by (B := T44.setTop (mkF m 60 #[.val (.int i0), .val (.int i1), .val (.int i2), .val (.int i3), .val (.int i4), .val (.int i5), .val (.int (Int32.ofNat cap)), .val (.int (4 : Int32)), .val (.ref b41), .unset, .unset, .unset] [(.ref b41)])) (fun t k => XS.aload X44.here hx rfl (hb hby at_58) rfl rfl k) ?_
    refine own_by (B := T44.setTop (mkF m 61 #[.val (.int i0), .val (.int i1), .val (.int i2), .val (.int i3), .val (.int i4), .val (.int i5), .val (.int (Int32.ofNat cap)), .val (.int (4 : Int32)), .val (.ref b41), .unset, .unset, .unset] [(.int i3), (.ref b41)])) (fun t k => XS.iloadN X44.here hx rfl (hb hby at_60) rfl k) ?_
    refine own_by (B := T44.setTop (mkF m 63 #[.val (.int i0), .val (.int i1), .val (.int i2), .val (.int i3), .val (.int i4), .val (.int i5), .val (.int (Int32.ofNat cap)), .val (.int (4 : Int32)), .val (.ref b41), .unset, .unset, .unset] [(.int i5), (.int i3), (.ref b41)])) (fun t k => XS.iload X44.here hx rfl (hb hby at_61) rfl k) ?_
    refine own_by (B := T44.setTop (mkF m 64 #[.val (.int i0), .val (.int i1), .val (.int i2), .val (.int i3), .val (.int i4), .val (.int i5), .val (.int (Int32.ofNat cap)), .val (.int (4 : Int32)), .val (.ref b41), .unset, .unset, .unset] [(.int (2 : Int32)), (.int i5), (.int i3), (.ref b41)])) (fun t k => XS.iconst X44.here hx rfl (hb hby at_63) k) ?_
    refine own_by (B := T44.setTop (mkF m 65 #[.val (.int i0), .val (.int i1), .val (.int i2), .val (.int i3), .val (.int i4), .val (.int i5), .val (.int (Int32.ofNat cap)), .val (.int (4 : Int32)), .val (.ref b41), .unset, .unset, .unset] [(.int (i5 + (2 : Int32))), (.int i3), (.ref b41)])) (fun t k => XS.iadd X44.here hx rfl (hb hby at_64) rfl k) ?_
    obtain ⟨cq45, kq45, q45a, q45b, q45c⟩ := isOf hZ rfl E_b41
    obtain ⟨_, _, ⟨T45, L45, k45, n45⟩, -, X45, ⟨Lc45, hQ45, l45, y45, z45⟩, st45⟩ := X44.virtualBack hx (y := (⟨"com/example/surrogate/surrogate/index/Entries", "add", "(II)V"⟩ : MethodName)) (z := (⟨"com/example/surrogate/surrogate/index/Entries", "add", "(II)V"⟩ : MethodName)) hown (mvT hZ (hw _ (List.mem_of_getElem? (i := 19) rfl))) (mvT hZ (hw _ (List.mem_of_getElem? (i := 20) rfl))) (notFace_of_selects (args := #[]) (mvT hZ (hw _ (List.mem_of_getElem? (i := 22) rfl)))) (mvT hZ (hw _ (List.mem_of_getElem? (i := 22) rfl))) (mvT hZ (hw _ (List.mem_of_getElem? (i := 21) rfl))) (by decide) (backOf (W := 0) (rmA l Z a0 hw [] b41 i3 (i5 + (2 : Int32)) b44 2 mz44 f44 T44.heap n0 Zs E_b41 F_size_b41 F_entries_b41 V_b44 hin44 g_b41 g_b44 ne_b41_b44 (by omega) (by omega) (by omega) (by omega)) hZ (hw _ (List.mem_of_getElem? (i := 23) rfl)) (hw _ (List.mem_of_getElem? (i := 2) rfl)) (by decide) (by decide)) q45a q45c (g := (mkF m 65 #[.val (.int i0), .val (.int i1), .val (.int i2), .val (.int i3), .val (.int i4), .val (.int i5), .val (.int (Int32.ofNat cap)), .val (.int (4 : Int32)), .val (.ref b41), .unset, .unset, .unset] [(.int (i5 + (2 : Int32))), (.int i3), (.ref b41)])) rfl (by rw [hml]; rfl) (Steps.refl _) (argsL := [(.int i3), (.int (i5 + (2 : Int32)))]) (rest := []) (lenOf own_pd4 rfl) rfl (by show 2 * 0 + _ ≤ _; exact Nat.le_of_eq rfl) (hb hby at_65) (fun _ _ => ⟨rfl, rfl, (by decide : 4 + 1 ≤ _), (by decide : 32 + 12 ≤ _)⟩)
    dsimp only [Pt.U, Pt.locs, Pt.cells, Pt.slots] at X45 l45 y45 z45 st45 hQ45
    subst l45 y45 z45
    obtain ⟨rfl, Nq45, Kc45, Fs45, b45, mz45, f45, g_b45, ne_b41_b45, Fe45, Vc45, hma45, hmb45, hmc45, hne45, hnf45, hol45, hin45⟩ := hQ45
    have Nf := Fr.app Nf Nq45
    have E_b41 := E_b41.keep Kc45
    have Zs := Nat.le_trans Zs Kc45.1
    have F_size_b41 := Fs45
    have F_entries_b41 := Fe45
    have V_b45 := Vc45
    have hA45_0 : f45 0 = .int i1 := (hol45 0 (by omega)).trans hA44_0
    have hB45_0 : f45 1 = .int i5 := (hol45 1 (by omega)).trans hB44_0
    have hA45_1 : f45 2 = .int i2 := (hol45 2 (by omega)).trans hA44_1
    have hB45_1 : f45 3 = .int (i5 + (1 : Int32)) := (hol45 3 (by omega)).trans hB44_1
    have hA45_2 : f45 4 = .int i3 := hne45
    have hB45_2 : f45 5 = .int (i5 + (2 : Int32)) := hnf45
    refine own_by (B := T45.setTop (mkF m 68 #[.val (.int i0), .val (.int i1), .val (.int i2), .val (.int i3), .val (.int i4), .val (.int i5), .val (.int (Int32.ofNat cap)), .val (.int (4 : Int32)), .val (.ref b41), .unset, .unset, .unset] [])) (fun t k => st45.trans k) ?_
    refine own_by (B := T45.setTop (mkF m 70 #[.val (.int i0), .val (.int i1), .val (.int i2), .val (.int i3), .val (.int i4), .val (.int i5), .val (.int (Int32.ofNat cap)), .val (.int (4 : Int32)), .val (.ref b41), .unset, .unset, .unset] [(.int (4 : Int32))])) (fun t k => XS.iload X45.here hx rfl (hb hby at_68) rfl k) ?_
    refine own_by (B := T45.setTop (mkF m 71 #[.val (.int i0), .val (.int i1), .val (.int i2), .val (.int i3), .val (.int i4), .val (.int i5), .val (.int (Int32.ofNat cap)), .val (.int (4 : Int32)), .val (.ref b41), .unset, .unset, .unset] [(.int (3 : Int32)), (.int (4 : Int32))])) (fun t k => XS.iconst X45.here hx rfl (hb hby at_70) k) ?_
    refine own_by (B := T45.setTop (mkF m 74 #[.val (.int i0), .val (.int i1), .val (.int i2), .val (.int i3), .val (.int i4), .val (.int i5), .val (.int (Int32.ofNat cap)), .val (.int (4 : Int32)), .val (.ref b41), .unset, .unset, .unset] [])) (fun t k => XS.icmpNo X45.here hx rfl (hb hby at_71) rfl (tlt (by decide)).2.2.2 k) ?_
    refine own_by (B := T45.setTop (mkF m 76 #[.val (.int i0), .val (.int i1), .val (.int i2), .val (.int i3), .val (.int i4), .val (.int i5), .val (.int (Int32.ofNat cap)), .val (.int (4 : Int32)), .val (.ref b41), .unset, .unset, .unset] [(.ref b41)])) (fun t k => XS.aload X45.here hx rfl (hb hby at_74) rfl rfl k) ?_
    refine own_by (B := T45.setTop (mkF m 78 #[.val (.int i0), .val (.int i1), .val (.int i2), .val (.int i3), .val (.int i4), .val (.int i5), .val (.int (Int32.ofNat cap)), .val (.int (4 : Int32)), .val (.ref b41), .unset, .unset, .unset] [(.int i4), (.ref b41)])) (fun t k => XS.iload X45.here hx rfl (hb hby at_76) rfl k) ?_
    refine own_by (B := T45.setTop (mkF m 80 #[.val (.int i0), .val (.int i1), .val (.int i2), .val (.int i3), .val (.int i4), .val (.int i5), .val (.int (Int32.ofNat cap)), .val (.int (4 : Int32)), .val (.ref b41), .unset, .unset, .unset] [(.int i5), (.int i4), (.ref b41)])) (fun t k => XS.iload X45.here hx rfl (hb hby at_78) rfl k) ?_
    refine own_by (B := T45.setTop (mkF m 81 #[.val (.int i0), .val (.int i1), .val (.int i2), .val (.int i3), .val (.int i4), .val (.int i5), .val (.int (Int32.ofNat cap)), .val (.int (4 : Int32)), .val (.ref b41), .unset, .unset, .unset] [(.int (3 : Int32)), (.int i5), (.int i4), (.ref b41)])) (fun t k => XS.iconst X45.here hx rfl (hb hby at_80) k) ?_
    refine own_by (B := T45.setTop (mkF m 82 #[.val (.int i0), .val (.int i1), .val (.int i2), .val (.int i3), .val (.int i4), .val (.int i5), .val (.int (Int32.ofNat cap)), .val (.int (4 : Int32)), .val (.ref b41), .unset, .unset, .unset] [(.int (i5 + (3 : Int32))), (.int i4), (.ref b41)])) (fun t k => XS.iadd X45.here hx rfl (hb hby at_81) rfl k) ?_
    obtain ⟨cq46, kq46, q46a, q46b, q46c⟩ := isOf hZ rfl E_b41
    obtain ⟨_, _, ⟨T46, L46, k46, n46⟩, -, X46, ⟨Lc46, hQ46, l46, y46, z46⟩, st46⟩ := X45.virtualBack hx (y := (⟨"com/example/surrogate/surrogate/index/Entries", "add", "(II)V"⟩ : MethodName)) (z := (⟨"com/example/surrogate/surrogate/index/Entries", "add", "(II)V"⟩ : MethodName)) hown (mvT hZ (hw _ (List.mem_of_getElem? (i := 19) rfl))) (mvT hZ (hw _ (List.mem_of_getElem? (i := 20) rfl))) (notFace_of_selects (args := #[]) (mvT hZ (hw _ (List.mem_of_getElem? (i := 22) rfl)))) (mvT hZ (hw _ (List.mem_of_getElem? (i := 22) rfl))) (mvT hZ (hw _ (List.mem_of_getElem? (i := 21) rfl))) (by decide) (backOf (W := 0) (rmA l Z a0 hw [] b41 i4 (i5 + (3 : Int32)) b45 3 mz45 f45 T45.heap n0 Zs E_b41 F_size_b41 F_entries_b41 V_b45 hin45 g_b41 g_b45 ne_b41_b45 (by omega) (by omega) (by omega) (by omega)) hZ (hw _ (List.mem_of_getElem? (i := 23) rfl)) (hw _ (List.mem_of_getElem? (i := 2) rfl)) (by decide) (by decide)) q46a q46c (g := (mkF m 82 #[.val (.int i0), .val (.int i1), .val (.int i2), .val (.int i3), .val (.int i4), .val (.int i5), .val (.int (Int32.ofNat cap)), .val (.int (4 : Int32)), .val (.ref b41), .unset, .unset, .unset] [(.int (i5 + (3 : Int32))), (.int i4), (.ref b41)])) rfl (by rw [hml]; rfl) (Steps.refl _) (argsL := [(.int i4), (.int (i5 + (3 : Int32)))]) (rest := []) (lenOf own_pd4 rfl) rfl (by show 2 * 0 + _ ≤ _; exact Nat.le_of_eq rfl) (hb hby at_82) (fun _ _ => ⟨rfl, rfl, (by decide : 5 + 1 ≤ _), (by decide : 44 + 12 ≤ _)⟩)
    dsimp only [Pt.U, Pt.locs, Pt.cells, Pt.slots] at X46 l46 y46 z46 st46 hQ46
    subst l46 y46 z46
    obtain ⟨rfl, Nq46, Kc46, Fs46, b46, mz46, f46, g_b46, ne_b41_b46, Fe46, Vc46, hma46, hmb46, hmc46, hne46, hnf46, hol46, hin46⟩ := hQ46
    have Nf := Fr.app Nf Nq46
    have E_b41 := E_b41.keep Kc46
    have Zs := Nat.le_trans Zs Kc46.1
    have F_size_b41 := Fs46
    have F_entries_b41 := Fe46
    have V_b46 := Vc46
    have hA46_0 : f46 0 = .int i1 := (hol46 0 (by omega)).trans hA45_0
    have hB46_0 : f46 1 = .int i5 := (hol46 1 (by omega)).trans hB45_0
    have hA46_1 : f46 2 = .int i2 := (hol46 2 (by omega)).trans hA45_1
    have hB46_1 : f46 3 = .int (i5 + (1 : Int32)) := (hol46 3 (by omega)).trans hB45_1
    have hA46_2 : f46 4 = .int i3 := (hol46 4 (by omega)).trans hA45_2
    have hB46_2 : f46 5 = .int (i5 + (2 : Int32)) := (hol46 5 (by omega)).trans hB45_2
    have hA46_3 : f46 6 = .int i4 := hne46
    have hB46_3 : f46 7 = .int (i5 + (3 : Int32)) := hnf46
    refine own_by (B := T46.setTop (mkF m 85 #[.val (.int i0), .val (.int i1), .val (.int i2), .val (.int i3), .val (.int i4), .val (.int i5), .val (.int (Int32.ofNat cap)), .val (.int (4 : Int32)), .val (.ref b41), .unset, .unset, .unset] [])) (fun t k => st46.trans k) ?_
    refine own_by (B := T46.setTop (mkF m 87 #[.val (.int i0), .val (.int i1), .val (.int i2), .val (.int i3), .val (.int i4), .val (.int i5), .val (.int (Int32.ofNat cap)), .val (.int (4 : Int32)), .val (.ref b41), .unset, .unset, .unset] [(.ref b41)])) (fun t k => XS.aload X46.here hx rfl (hb hby at_85) rfl rfl k) ?_
    obtain ⟨cq47, kq47, q47a, q47b, q47c⟩ := isOf hZ rfl E_b41
    obtain ⟨_, _, ⟨T47, L47, k47, n47⟩, -, X47, ⟨Lc47, hQ47, l47, y47, z47⟩, st47⟩ := X46.virtualBack hx (y := (⟨"com/example/surrogate/surrogate/index/Entries", "numbers", "()[I"⟩ : MethodName)) (z := (⟨"com/example/surrogate/surrogate/index/Entries", "numbers", "()[I"⟩ : MethodName)) hown (mvT hZ (hw _ (List.mem_of_getElem? (i := 12) rfl))) (mvT hZ (hw _ (List.mem_of_getElem? (i := 13) rfl))) (notFace_of_selects (args := #[]) (mvT hZ (hw _ (List.mem_of_getElem? (i := 15) rfl)))) (mvT hZ (hw _ (List.mem_of_getElem? (i := 15) rfl))) (mvT hZ (hw _ (List.mem_of_getElem? (i := 14) rfl))) (by decide) (backOf (W := 0) (rmF4 l Z a0 hw [] b41 b46 mz46 f46 i1 i2 i3 i4 T46.heap n0 Zs F_size_b41 F_entries_b41 V_b46 ne_b41_b46 (by omega) (by omega) hA46_0 hA46_1 hA46_2 hA46_3) hZ (hw _ (List.mem_of_getElem? (i := 16) rfl)) (hw _ (List.mem_of_getElem? (i := 2) rfl)) (by decide) (by decide)) q47a q47c (g := (mkF m 87 #[.val (.int i0), .val (.int i1), .val (.int i2), .val (.int i3), .val (.int i4), .val (.int i5), .val (.int (Int32.ofNat cap)), .val (.int (4 : Int32)), .val (.ref b41), .unset, .unset, .unset] [(.ref b41)])) rfl (by rw [hml]; rfl) (Steps.refl _) (argsL := []) (rest := []) (lenOf own_pd3 rfl) rfl (by show 2 * 0 + _ ≤ _; exact Nat.le_of_eq rfl) (hb hby at_87) (fun _ _ => ⟨rfl, rfl, (by decide : 6 + 1 ≤ _), (by decide : 56 + 4 ≤ _)⟩)
    dsimp only [Pt.U, Pt.locs, Pt.cells, Pt.slots] at X47 l47 y47 z47 st47 hQ47
    subst l47 y47 z47
    obtain ⟨rfl, Nq47, Kc47, g47, Vc47, hg47_0, hg47_1, hg47_2, hg47_3⟩ := hQ47
    have Nf := Fr.app Nf Nq47
    obtain ⟨b47, gq47⟩ : ∃ z, z = T46.heap.size := ⟨_, rfl⟩
    rw [← gq47] at Vc47 st47
    have ne_b41_b47 : b41 ≠ b47 := Nat.ne_of_lt (Nat.lt_of_lt_of_le E_b41.lt (Nat.le_of_eq gq47.symm))
    have ne_b46_b47 : b46 ≠ b47 := Nat.ne_of_lt (Nat.lt_of_lt_of_le V_b46.lt (Nat.le_of_eq gq47.symm))
    have g_b47 : n0 ≤ b47 := Nat.le_trans Zs (Nat.le_of_eq gq47.symm)
    have E_b41 := E_b41.keep Kc47
    have F_size_b41 := F_size_b41.keep Kc47 nin0
    have F_entries_b41 := F_entries_b41.keep Kc47 nin0
    have V_b46 := V_b46.keep Kc47 nin0
    have Zs := Nat.le_trans Zs Kc47.1
    have V_b47 := Vc47
    refine own_by (B := T47.setTop (mkF m 90 #[.val (.int i0), .val (.int i1), .val (.int i2), .val (.int i3), .val (.int i4), .val (.int i5), .val (.int (Int32.ofNat cap)), .val (.int (4 : Int32)), .val (.ref b41), .unset, .unset, .unset] [(.ref b47)])) (fun t k => st47.trans k) ?_
    refine own_by (B := T47.setTop (mkF m 92 #[.val (.int i0), .val (.int i1), .val (.int i2), .val (.int i3), .val (.int i4), .val (.int i5), .val (.int (Int32.ofNat cap)), .val (.int (4 : Int32)), .val (.ref b41), .val (.ref b47), .unset, .unset] [])) (fun t k => XS.astore X47.here hx rfl (hb hby at_90) rfl rfl (l' := #[.val (.int i0), .val (.int i1), .val (.int i2), .val (.int i3), .val (.int i4), .val (.int i5), .val (.int (Int32.ofNat cap)), .val (.int (4 : Int32)), .val (.ref b41), .val (.ref b47), .unset, .unset]) rfl k) ?_
    refine own_by (B := T47.setTop (mkF m 94 #[.val (.int i0), .val (.int i1), .val (.int i2), .val (.int i3), .val (.int i4), .val (.int i5), .val (.int (Int32.ofNat cap)), .val (.int (4 : Int32)), .val (.ref b41), .val (.ref b47), .unset, .unset] [(.ref b47)])) (fun t k => XS.aload X47.here hx rfl (hb hby at_92) rfl rfl k) ?_
    obtain ⟨cl48, Ar48, Sz48, Ng48, -⟩ := id V_b47
    refine own_by (B := T47.setTop (mkF m 95 #[.val (.int i0), .val (.int i1), .val (.int i2), .val (.int i3), .val (.int i4), .val (.int i5), .val (.int (Int32.ofNat cap)), .val (.int (4 : Int32)), .val (.ref b41), .val (.ref b47), .unset, .unset] [(.int (4 : Int32))])) (fun t k => X47.arraylength hx Ar48.1 (State.isArrayOf_alike hZ.alike Ar48.2.1) (g := (mkF m 94 #[.val (.int i0), .val (.int i1), .val (.int i2), .val (.int i3), .val (.int i4), .val (.int i5), .val (.int (Int32.ofNat cap)), .val (.int (4 : Int32)), .val (.ref b41), .val (.ref b47), .unset, .unset] [(.ref b47)])) rfl rfl (hb hby at_94) _ (by rw [len_of Sz48 Ng48]; exact k)) ?_
    refine own_by (B := T47.setTop (mkF m 97 #[.val (.int i0), .val (.int i1), .val (.int i2), .val (.int i3), .val (.int i4), .val (.int i5), .val (.int (Int32.ofNat cap)), .val (.int (4 : Int32)), .val (.ref b41), .val (.ref b47), .unset, .unset] [(.int (4 : Int32)), (.int (4 : Int32))])) (fun t k => XS.iload X47.here hx rfl (hb hby at_95) rfl k) ?_
    refine own_by (B := T47.setTop (mkF m 102 #[.val (.int i0), .val (.int i1), .val (.int i2), .val (.int i3), .val (.int i4), .val (.int i5), .val (.int (Int32.ofNat cap)), .val (.int (4 : Int32)), .val (.ref b41), .val (.ref b47), .unset, .unset] [])) (fun t k => XS.icmpYes X47.here hx rfl (pc0 := 97) (pc' := 102) rfl (hb hby at_97) rfl (teq (by decide)).1 (by decide) (by decide) k) ?_
    refine own_by (B := T47.setTop (mkF m 103 #[.val (.int i0), .val (.int i1), .val (.int i2), .val (.int i3), .val (.int i4), .val (.int i5), .val (.int (Int32.ofNat cap)), .val (.int (4 : Int32)), .val (.ref b41), .val (.ref b47), .unset, .unset] [(.int (1 : Int32))])) (fun t k => XS.iconst X47.here hx rfl (hb hby at_102) k) ?_
    refine own_by (B := T47.setTop (mkF m 105 #[.val (.int i0), .val (.int i1), .val (.int i2), .val (.int i3), .val (.int i4), .val (.int i5), .val (.int (Int32.ofNat cap)), .val (.int (4 : Int32)), .val (.ref b41), .val (.ref b47), .val (.int (1 : Int32)), .unset] [])) (fun t k => XS.istore X47.here hx rfl (hb hby at_103) rfl (l' := #[.val (.int i0), .val (.int i1), .val (.int i2), .val (.int i3), .val (.int i4), .val (.int i5), .val (.int (Int32.ofNat cap)), .val (.int (4 : Int32)), .val (.ref b41), .val (.ref b47), .val (.int (1 : Int32)), .unset]) rfl k) ?_
    refine own_by (B := T47.setTop (mkF m 107 #[.val (.int i0), .val (.int i1), .val (.int i2), .val (.int i3), .val (.int i4), .val (.int i5), .val (.int (Int32.ofNat cap)), .val (.int (4 : Int32)), .val (.ref b41), .val (.ref b47), .val (.int (1 : Int32)), .unset] [(.int (4 : Int32))])) (fun t k => XS.iload X47.here hx rfl (hb hby at_105) rfl k) ?_
    refine own_by (B := T47.setTop (mkF m 110 #[.val (.int i0), .val (.int i1), .val (.int i2), .val (.int i3), .val (.int i4), .val (.int i5), .val (.int (Int32.ofNat cap)), .val (.int (4 : Int32)), .val (.ref b41), .val (.ref b47), .val (.int (1 : Int32)), .unset] [])) (fun t k => XS.ifNo X47.here hx rfl (hb hby at_107) rfl ((if0 _ _).trans (tlt (by decide)).2.2.2) k) ?_
    refine own_by (B := T47.setTop (mkF m 112 #[.val (.int i0), .val (.int i1), .val (.int i2), .val (.int i3), .val (.int i4), .val (.int i5), .val (.int (Int32.ofNat cap)), .val (.int (4 : Int32)), .val (.ref b41), .val (.ref b47), .val (.int (1 : Int32)), .unset] [(.int (1 : Int32))])) (fun t k => XS.iload X47.here hx rfl (hb hby at_110) rfl k) ?_
    refine own_by (B := T47.setTop (mkF m 115 #[.val (.int i0), .val (.int i1), .val (.int i2), .val (.int i3), .val (.int i4), .val (.int i5), .val (.int (Int32.ofNat cap)), .val (.int (4 : Int32)), .val (.ref b41), .val (.ref b47), .val (.int (1 : Int32)), .unset] [])) (fun t k => XS.ifNo X47.here hx rfl (hb hby at_112) rfl ((if0 _ _).trans (feq (by decide)).1) k) ?_
    refine own_by (B := T47.setTop (mkF m 117 #[.val (.int i0), .val (.int i1), .val (.int i2), .val (.int i3), .val (.int i4), .val (.int i5), .val (.int (Int32.ofNat cap)), .val (.int (4 : Int32)), .val (.ref b41), .val (.ref b47), .val (.int (1 : Int32)), .unset] [(.ref b47)])) (fun t k => XS.aload X47.here hx rfl (hb hby at_115) rfl rfl k) ?_
    refine own_by (B := T47.setTop (mkF m 118 #[.val (.int i0), .val (.int i1), .val (.int i2), .val (.int i3), .val (.int i4), .val (.int i5), .val (.int (Int32.ofNat cap)), .val (.int (4 : Int32)), .val (.ref b41), .val (.ref b47), .val (.int (1 : Int32)), .unset] [(.int (0 : Int32)), (.ref b47)])) (fun t k => XS.iconst X47.here hx rfl (hb hby at_117) k) ?_
    obtain ⟨cl49, Ar49, hin49, hat49⟩ := V_b47.at (j := (0 : Int32)) ⟨by decide, by decide⟩
    have hat49 := hat49.trans (congrArg some (show _ = (.int i1) from hg47_0))
    refine own_by (B := T47.setTop (mkF m 119 #[.val (.int i0), .val (.int i1), .val (.int i2), .val (.int i3), .val (.int i4), .val (.int i5), .val (.int (Int32.ofNat cap)), .val (.int (4 : Int32)), .val (.ref b41), .val (.ref b47), .val (.int (1 : Int32)), .unset] [(.int i1)])) (fun t k => X47.iaload hx (j := (0 : Int32)) (v := (.int i1)) Ar49.1 (State.isArrayOf_alike hZ.alike Ar49.2.1) Ar49.2.2 hin49 hat49 (g := (mkF m 118 #[.val (.int i0), .val (.int i1), .val (.int i2), .val (.int i3), .val (.int i4), .val (.int i5), .val (.int (Int32.ofNat cap)), .val (.int (4 : Int32)), .val (.ref b41), .val (.ref b47), .val (.int (1 : Int32)), .unset] [(.int (0 : Int32)), (.ref b47)])) rfl rfl (hb hby at_118) _ k) ?_
    refine own_by (B := T47.setTop (mkF m 120 #[.val (.int i0), .val (.int i1), .val (.int i2), .val (.int i3), .val (.int i4), .val (.int i5), .val (.int (Int32.ofNat cap)), .val (.int (4 : Int32)), .val (.ref b41), .val (.ref b47), .val (.int (1 : Int32)), .unset] [(.int i1), (.int i1)])) (fun t k => XS.iloadN X47.here hx rfl (hb hby at_119) rfl k) ?_
    refine own_by (B := T47.setTop (mkF m 123 #[.val (.int i0), .val (.int i1), .val (.int i2), .val (.int i3), .val (.int i4), .val (.int i5), .val (.int (Int32.ofNat cap)), .val (.int (4 : Int32)), .val (.ref b41), .val (.ref b47), .val (.int (1 : Int32)), .unset] [])) (fun t k => XS.icmpNo X47.here hx rfl (hb hby at_120) rfl (teq rfl).2 k) ?_
    refine own_by (B := T47.setTop (mkF m 124 #[.val (.int i0), .val (.int i1), .val (.int i2), .val (.int i3), .val (.int i4), .val (.int i5), .val (.int (Int32.ofNat cap)), .val (.int (4 : Int32)), .val (.ref b41), .val (.ref b47), .val (.int (1 : Int32)), .unset] [(.int (1 : Int32))])) (fun t k => XS.iconst X47.here hx rfl (hb hby at_123) k) ?_
    refine own_by (B := T47.setTop (mkF m 128 #[.val (.int i0), .val (.int i1), .val (.int i2), .val (.int i3), .val (.int i4), .val (.int i5), .val (.int (Int32.ofNat cap)), .val (.int (4 : Int32)), .val (.ref b41), .val (.ref b47), .val (.int (1 : Int32)), .unset] [(.int (1 : Int32))])) (fun t k => XS.goto X47.here hx rfl (pc0 := 124) (pc' := 128) rfl (hb hby at_124) (by decide) (by decide) k) ?_
    refine own_by (B := T47.setTop (mkF m 130 #[.val (.int i0), .val (.int i1), .val (.int i2), .val (.int i3), .val (.int i4), .val (.int i5), .val (.int (Int32.ofNat cap)), .val (.int (4 : Int32)), .val (.ref b41), .val (.ref b47), .val (.int (1 : Int32)), .unset] [])) (fun t k => XS.istore X47.here hx rfl (hb hby at_128) rfl (l' := #[.val (.int i0), .val (.int i1), .val (.int i2), .val (.int i3), .val (.int i4), .val (.int i5), .val (.int (Int32.ofNat cap)), .val (.int (4 : Int32)), .val (.ref b41), .val (.ref b47), .val (.int (1 : Int32)), .unset]) rfl k) ?_
    refine own_by (B := T47.setTop (mkF m 132 #[.val (.int i0), .val (.int i1), .val (.int i2), .val (.int i3), .val (.int i4), .val (.int i5), .val (.int (Int32.ofNat cap)), .val (.int (4 : Int32)), .val (.ref b41), .val (.ref b47), .val (.int (1 : Int32)), .unset] [(.int (4 : Int32))])) (fun t k => XS.iload X47.here hx rfl (hb hby at_130) rfl k) ?_
    refine own_by (B := T47.setTop (mkF m 133 #[.val (.int i0), .val (.int i1), .val (.int i2), .val (.int i3), .val (.int i4), .val (.int i5), .val (.int (Int32.ofNat cap)), .val (.int (4 : Int32)), .val (.ref b41), .val (.ref b47), .val (.int (1 : Int32)), .unset] [(.int (1 : Int32)), (.int (4 : Int32))])) (fun t k => XS.iconst X47.here hx rfl (hb hby at_132) k) ?_
    refine own_by (B := T47.setTop (mkF m 136 #[.val (.int i0), .val (.int i1), .val (.int i2), .val (.int i3), .val (.int i4), .val (.int i5), .val (.int (Int32.ofNat cap)), .val (.int (4 : Int32)), .val (.ref b41), .val (.ref b47), .val (.int (1 : Int32)), .unset] [])) (fun t k => XS.icmpNo X47.here hx rfl (hb hby at_133) rfl (tlt (by decide)).2.2.2 k) ?_
    refine own_by (B := T47.setTop (mkF m 138 #[.val (.int i0), .val (.int i1), .val (.int i2), .val (.int i3), .val (.int i4), .val (.int i5), .val (.int (Int32.ofNat cap)), .val (.int (4 : Int32)), .val (.ref b41), .val (.ref b47), .val (.int (1 : Int32)), .unset] [(.int (1 : Int32))])) (fun t k => XS.iload X47.here hx rfl (hb hby at_136) rfl k) ?_
    refine own_by (B := T47.setTop (mkF m 141 #[.val (.int i0), .val (.int i1), .val (.int i2), .val (.int i3), .val (.int i4), .val (.int i5), .val (.int (Int32.ofNat cap)), .val (.int (4 : Int32)), .val (.ref b41), .val (.ref b47), .val (.int (1 : Int32)), .unset] [])) (fun t k => XS.ifNo X47.here hx rfl (hb hby at_138) rfl ((if0 _ _).trans (feq (by decide)).1) k) ?_
    refine own_by (B := T47.setTop (mkF m 143 #[.val (.int i0), .val (.int i1), .val (.int i2), .val (.int i3), .val (.int i4), .val (.int i5), .val (.int (Int32.ofNat cap)), .val (.int (4 : Int32)), .val (.ref b41), .val (.ref b47), .val (.int (1 : Int32)), .unset] [(.ref b47)])) (fun t k => XS.aload X47.here hx rfl (hb hby at_141) rfl rfl k) ?_
    refine own_by (B := T47.setTop (mkF m 144 #[.val (.int i0), .val (.int i1), .val (.int i2), .val (.int i3), .val (.int i4), .val (.int i5), .val (.int (Int32.ofNat cap)), .val (.int (4 : Int32)), .val (.ref b41), .val (.ref b47), .val (.int (1 : Int32)), .unset] [(.int (1 : Int32)), (.ref b47)])) (fun t k => XS.iconst X47.here hx rfl (hb hby at_143) k) ?_
    obtain ⟨cl50, Ar50, hin50, hat50⟩ := V_b47.at (j := (1 : Int32)) ⟨by decide, by decide⟩
    have hat50 := hat50.trans (congrArg some (show _ = (.int i2) from hg47_1))
    refine own_by (B := T47.setTop (mkF m 145 #[.val (.int i0), .val (.int i1), .val (.int i2), .val (.int i3), .val (.int i4), .val (.int i5), .val (.int (Int32.ofNat cap)), .val (.int (4 : Int32)), .val (.ref b41), .val (.ref b47), .val (.int (1 : Int32)), .unset] [(.int i2)])) (fun t k => X47.iaload hx (j := (1 : Int32)) (v := (.int i2)) Ar50.1 (State.isArrayOf_alike hZ.alike Ar50.2.1) Ar50.2.2 hin50 hat50 (g := (mkF m 144 #[.val (.int i0), .val (.int i1), .val (.int i2), .val (.int i3), .val (.int i4), .val (.int i5), .val (.int (Int32.ofNat cap)), .val (.int (4 : Int32)), .val (.ref b41), .val (.ref b47), .val (.int (1 : Int32)), .unset] [(.int (1 : Int32)), (.ref b47)])) rfl rfl (hb hby at_144) _ k) ?_
    refine own_by (B := T47.setTop (mkF m 146 #[.val (.int i0), .val (.int i1), .val (.int i2), .val (.int i3), .val (.int i4), .val (.int i5), .val (.int (Int32.ofNat cap)), .val (.int (4 : Int32)), .val (.ref b41), .val (.ref b47), .val (.int (1 : Int32)), .unset] [(.int i2), (.int i2)])) (fun t k => XS.iloadN X47.here hx rfl (hb hby at_145) rfl k) ?_
    refine own_by (B := T47.setTop (mkF m 149 #[.val (.int i0), .val (.int i1), .val (.int i2), .val (.int i3), .val (.int i4), .val (.int i5), .val (.int (Int32.ofNat cap)), .val (.int (4 : Int32)), .val (.ref b41), .val (.ref b47), .val (.int (1 : Int32)), .unset] [])) (fun t k => XS.icmpNo X47.here hx rfl (hb hby at_146) rfl (teq rfl).2 k) ?_
    refine own_by (B := T47.setTop (mkF m 150 #[.val (.int i0), .val (.int i1), .val (.int i2), .val (.int i3), .val (.int i4), .val (.int i5), .val (.int (Int32.ofNat cap)), .val (.int (4 : Int32)), .val (.ref b41), .val (.ref b47), .val (.int (1 : Int32)), .unset] [(.int (1 : Int32))])) (fun t k => XS.iconst X47.here hx rfl (hb hby at_149) k) ?_
    refine own_by (B := T47.setTop (mkF m 154 #[.val (.int i0), .val (.int i1), .val (.int i2), .val (.int i3), .val (.int i4), .val (.int i5), .val (.int (Int32.ofNat cap)), .val (.int (4 : Int32)), .val (.ref b41), .val (.ref b47), .val (.int (1 : Int32)), .unset] [(.int (1 : Int32))])) (fun t k => XS.goto X47.here hx rfl (pc0 := 150) (pc' := 154) rfl (hb hby at_150) (by decide) (by decide) k) ?_
    refine own_by (B := T47.setTop (mkF m 156 #[.val (.int i0), .val (.int i1), .val (.int i2), .val (.int i3), .val (.int i4), .val (.int i5), .val (.int (Int32.ofNat cap)), .val (.int (4 : Int32)), .val (.ref b41), .val (.ref b47), .val (.int (1 : Int32)), .unset] [])) (fun t k => XS.istore X47.here hx rfl (hb hby at_154) rfl (l' := #[.val (.int i0), .val (.int i1), .val (.int i2), .val (.int i3), .val (.int i4), .val (.int i5), .val (.int (Int32.ofNat cap)), .val (.int (4 : Int32)), .val (.ref b41), .val (.ref b47), .val (.int (1 : Int32)), .unset]) rfl k) ?_
    refine own_by (B := T47.setTop (mkF m 158 #[.val (.int i0), .val (.int i1), .val (.int i2), .val (.int i3), .val (.int i4), .val (.int i5), .val (.int (Int32.ofNat cap)), .val (.int (4 : Int32)), .val (.ref b41), .val (.ref b47), .val (.int (1 : Int32)), .unset] [(.int (4 : Int32))])) (fun t k => XS.iload X47.here hx rfl (hb hby at_156) rfl k) ?_
    refine own_by (B := T47.setTop (mkF m 159 #[.val (.int i0), .val (.int i1), .val (.int i2), .val (.int i3), .val (.int i4), .val (.int i5), .val (.int (Int32.ofNat cap)), .val (.int (4 : Int32)), .val (.ref b41), .val (.ref b47), .val (.int (1 : Int32)), .unset] [(.int (2 : Int32)), (.int (4 : Int32))])) (fun t k => XS.iconst X47.here hx rfl (hb hby at_158) k) ?_
    refine own_by (B := T47.setTop (mkF m 162 #[.val (.int i0), .val (.int i1), .val (.int i2), .val (.int i3), .val (.int i4), .val (.int i5), .val (.int (Int32.ofNat cap)), .val (.int (4 : Int32)), .val (.ref b41), .val (.ref b47), .val (.int (1 : Int32)), .unset] [])) (fun t k => XS.icmpNo X47.here hx rfl (hb hby at_159) rfl (tlt (by decide)).2.2.2 k) ?_
    refine own_by (B := T47.setTop (mkF m 164 #[.val (.int i0), .val (.int i1), .val (.int i2), .val (.int i3), .val (.int i4), .val (.int i5), .val (.int (Int32.ofNat cap)), .val (.int (4 : Int32)), .val (.ref b41), .val (.ref b47), .val (.int (1 : Int32)), .unset] [(.int (1 : Int32))])) (fun t k => XS.iload X47.here hx rfl (hb hby at_162) rfl k) ?_
    refine own_by (B := T47.setTop (mkF m 167 #[.val (.int i0), .val (.int i1), .val (.int i2), .val (.int i3), .val (.int i4), .val (.int i5), .val (.int (Int32.ofNat cap)), .val (.int (4 : Int32)), .val (.ref b41), .val (.ref b47), .val (.int (1 : Int32)), .unset] [])) (fun t k => XS.ifNo X47.here hx rfl (hb hby at_164) rfl ((if0 _ _).trans (feq (by decide)).1) k) ?_
    refine own_by (B := T47.setTop (mkF m 169 #[.val (.int i0), .val (.int i1), .val (.int i2), .val (.int i3), .val (.int i4), .val (.int i5), .val (.int (Int32.ofNat cap)), .val (.int (4 : Int32)), .val (.ref b41), .val (.ref b47), .val (.int (1 : Int32)), .unset] [(.ref b47)])) (fun t k => XS.aload X47.here hx rfl (hb hby at_167) rfl rfl k) ?_
    refine own_by (B := T47.setTop (mkF m 170 #[.val (.int i0), .val (.int i1), .val (.int i2), .val (.int i3), .val (.int i4), .val (.int i5), .val (.int (Int32.ofNat cap)), .val (.int (4 : Int32)), .val (.ref b41), .val (.ref b47), .val (.int (1 : Int32)), .unset] [(.int (2 : Int32)), (.ref b47)])) (fun t k => XS.iconst X47.here hx rfl (hb hby at_169) k) ?_
    obtain ⟨cl51, Ar51, hin51, hat51⟩ := V_b47.at (j := (2 : Int32)) ⟨by decide, by decide⟩
    have hat51 := hat51.trans (congrArg some (show _ = (.int i3) from hg47_2))
    refine own_by (B := T47.setTop (mkF m 171 #[.val (.int i0), .val (.int i1), .val (.int i2), .val (.int i3), .val (.int i4), .val (.int i5), .val (.int (Int32.ofNat cap)), .val (.int (4 : Int32)), .val (.ref b41), .val (.ref b47), .val (.int (1 : Int32)), .unset] [(.int i3)])) (fun t k => X47.iaload hx (j := (2 : Int32)) (v := (.int i3)) Ar51.1 (State.isArrayOf_alike hZ.alike Ar51.2.1) Ar51.2.2 hin51 hat51 (g := (mkF m 170 #[.val (.int i0), .val (.int i1), .val (.int i2), .val (.int i3), .val (.int i4), .val (.int i5), .val (.int (Int32.ofNat cap)), .val (.int (4 : Int32)), .val (.ref b41), .val (.ref b47), .val (.int (1 : Int32)), .unset] [(.int (2 : Int32)), (.ref b47)])) rfl rfl (hb hby at_170) _ k) ?_
    refine own_by (B := T47.setTop (mkF m 172 #[.val (.int i0), .val (.int i1), .val (.int i2), .val (.int i3), .val (.int i4), .val (.int i5), .val (.int (Int32.ofNat cap)), .val (.int (4 : Int32)), .val (.ref b41), .val (.ref b47), .val (.int (1 : Int32)), .unset] [(.int i3), (.int i3)])) (fun t k => XS.iloadN X47.here hx rfl (hb hby at_171) rfl k) ?_
    refine own_by (B := T47.setTop (mkF m 175 #[.val (.int i0), .val (.int i1), .val (.int i2), .val (.int i3), .val (.int i4), .val (.int i5), .val (.int (Int32.ofNat cap)), .val (.int (4 : Int32)), .val (.ref b41), .val (.ref b47), .val (.int (1 : Int32)), .unset] [])) (fun t k => XS.icmpNo X47.here hx rfl (hb hby at_172) rfl (teq rfl).2 k) ?_
    refine own_by (B := T47.setTop (mkF m 176 #[.val (.int i0), .val (.int i1), .val (.int i2), .val (.int i3), .val (.int i4), .val (.int i5), .val (.int (Int32.ofNat cap)), .val (.int (4 : Int32)), .val (.ref b41), .val (.ref b47), .val (.int (1 : Int32)), .unset] [(.int (1 : Int32))])) (fun t k => XS.iconst X47.here hx rfl (hb hby at_175) k) ?_
    refine own_by (B := T47.setTop (mkF m 180 #[.val (.int i0), .val (.int i1), .val (.int i2), .val (.int i3), .val (.int i4), .val (.int i5), .val (.int (Int32.ofNat cap)), .val (.int (4 : Int32)), .val (.ref b41), .val (.ref b47), .val (.int (1 : Int32)), .unset] [(.int (1 : Int32))])) (fun t k => XS.goto X47.here hx rfl (pc0 := 176) (pc' := 180) rfl (hb hby at_176) (by decide) (by decide) k) ?_
    refine own_by (B := T47.setTop (mkF m 182 #[.val (.int i0), .val (.int i1), .val (.int i2), .val (.int i3), .val (.int i4), .val (.int i5), .val (.int (Int32.ofNat cap)), .val (.int (4 : Int32)), .val (.ref b41), .val (.ref b47), .val (.int (1 : Int32)), .unset] [])) (fun t k => XS.istore X47.here hx rfl (hb hby at_180) rfl (l' := #[.val (.int i0), .val (.int i1), .val (.int i2), .val (.int i3), .val (.int i4), .val (.int i5), .val (.int (Int32.ofNat cap)), .val (.int (4 : Int32)), .val (.ref b41), .val (.ref b47), .val (.int (1 : Int32)), .unset]) rfl k) ?_
    refine own_by (B := T47.setTop (mkF m 184 #[.val (.int i0), .val (.int i1), .val (.int i2), .val (.int i3), .val (.int i4), .val (.int i5), .val (.int (Int32.ofNat cap)), .val (.int (4 : Int32)), .val (.ref b41), .val (.ref b47), .val (.int (1 : Int32)), .unset] [(.int (4 : Int32))])) (fun t k => XS.iload X47.here hx rfl (hb hby at_182) rfl k) ?_
    refine own_by (B := T47.setTop (mkF m 185 #[.val (.int i0), .val (.int i1), .val (.int i2), .val (.int i3), .val (.int i4), .val (.int i5), .val (.int (Int32.ofNat cap)), .val (.int (4 : Int32)), .val (.ref b41), .val (.ref b47), .val (.int (1 : Int32)), .unset] [(.int (3 : Int32)), (.int (4 : Int32))])) (fun t k => XS.iconst X47.here hx rfl (hb hby at_184) k) ?_
    refine own_by (B := T47.setTop (mkF m 188 #[.val (.int i0), .val (.int i1), .val (.int i2), .val (.int i3), .val (.int i4), .val (.int i5), .val (.int (Int32.ofNat cap)), .val (.int (4 : Int32)), .val (.ref b41), .val (.ref b47), .val (.int (1 : Int32)), .unset] [])) (fun t k => XS.icmpNo X47.here hx rfl (hb hby at_185) rfl (tlt (by decide)).2.2.2 k) ?_
    refine own_by (B := T47.setTop (mkF m 190 #[.val (.int i0), .val (.int i1), .val (.int i2), .val (.int i3), .val (.int i4), .val (.int i5), .val (.int (Int32.ofNat cap)), .val (.int (4 : Int32)), .val (.ref b41), .val (.ref b47), .val (.int (1 : Int32)), .unset] [(.int (1 : Int32))])) (fun t k => XS.iload X47.here hx rfl (hb hby at_188) rfl k) ?_
    refine own_by (B := T47.setTop (mkF m 193 #[.val (.int i0), .val (.int i1), .val (.int i2), .val (.int i3), .val (.int i4), .val (.int i5), .val (.int (Int32.ofNat cap)), .val (.int (4 : Int32)), .val (.ref b41), .val (.ref b47), .val (.int (1 : Int32)), .unset] [])) (fun t k => XS.ifNo X47.here hx rfl (hb hby at_190) rfl ((if0 _ _).trans (feq (by decide)).1) k) ?_
    refine own_by (B := T47.setTop (mkF m 195 #[.val (.int i0), .val (.int i1), .val (.int i2), .val (.int i3), .val (.int i4), .val (.int i5), .val (.int (Int32.ofNat cap)), .val (.int (4 : Int32)), .val (.ref b41), .val (.ref b47), .val (.int (1 : Int32)), .unset] [(.ref b47)])) (fun t k => XS.aload X47.here hx rfl (hb hby at_193) rfl rfl k) ?_
    refine own_by (B := T47.setTop (mkF m 196 #[.val (.int i0), .val (.int i1), .val (.int i2), .val (.int i3), .val (.int i4), .val (.int i5), .val (.int (Int32.ofNat cap)), .val (.int (4 : Int32)), .val (.ref b41), .val (.ref b47), .val (.int (1 : Int32)), .unset] [(.int (3 : Int32)), (.ref b47)])) (fun t k => XS.iconst X47.here hx rfl (hb hby at_195) k) ?_
    obtain ⟨cl52, Ar52, hin52, hat52⟩ := V_b47.at (j := (3 : Int32)) ⟨by decide, by decide⟩
    have hat52 := hat52.trans (congrArg some (show _ = (.int i4) from hg47_3))
    refine own_by (B := T47.setTop (mkF m 197 #[.val (.int i0), .val (.int i1), .val (.int i2), .val (.int i3), .val (.int i4), .val (.int i5), .val (.int (Int32.ofNat cap)), .val (.int (4 : Int32)), .val (.ref b41), .val (.ref b47), .val (.int (1 : Int32)), .unset] [(.int i4)])) (fun t k => X47.iaload hx (j := (3 : Int32)) (v := (.int i4)) Ar52.1 (State.isArrayOf_alike hZ.alike Ar52.2.1) Ar52.2.2 hin52 hat52 (g := (mkF m 196 #[.val (.int i0), .val (.int i1), .val (.int i2), .val (.int i3), .val (.int i4), .val (.int i5), .val (.int (Int32.ofNat cap)), .val (.int (4 : Int32)), .val (.ref b41), .val (.ref b47), .val (.int (1 : Int32)), .unset] [(.int (3 : Int32)), (.ref b47)])) rfl rfl (hb hby at_196) _ k) ?_
    refine own_by (B := T47.setTop (mkF m 199 #[.val (.int i0), .val (.int i1), .val (.int i2), .val (.int i3), .val (.int i4), .val (.int i5), .val (.int (Int32.ofNat cap)), .val (.int (4 : Int32)), .val (.ref b41), .val (.ref b47), .val (.int (1 : Int32)), .unset] [(.int i4), (.int i4)])) (fun t k => XS.iload X47.here hx rfl (hb hby at_197) rfl k) ?_
    refine own_by (B := T47.setTop (mkF m 202 #[.val (.int i0), .val (.int i1), .val (.int i2), .val (.int i3), .val (.int i4), .val (.int i5), .val (.int (Int32.ofNat cap)), .val (.int (4 : Int32)), .val (.ref b41), .val (.ref b47), .val (.int (1 : Int32)), .unset] [])) (fun t k => XS.icmpNo X47.here hx rfl (hb hby at_199) rfl (teq rfl).2 k) ?_
    refine own_by (B := T47.setTop (mkF m 203 #[.val (.int i0), .val (.int i1), .val (.int i2), .val (.int i3), .val (.int i4), .val (.int i5), .val (.int (Int32.ofNat cap)), .val (.int (4 : Int32)), .val (.ref b41), .val (.ref b47), .val (.int (1 : Int32)), .unset] [(.int (1 : Int32))])) (fun t k => XS.iconst X47.here hx rfl (hb hby at_202) k) ?_
    refine own_by (B := T47.setTop (mkF m 207 #[.val (.int i0), .val (.int i1), .val (.int i2), .val (.int i3), .val (.int i4), .val (.int i5), .val (.int (Int32.ofNat cap)), .val (.int (4 : Int32)), .val (.ref b41), .val (.ref b47), .val (.int (1 : Int32)), .unset] [(.int (1 : Int32))])) (fun t k => XS.goto X47.here hx rfl (pc0 := 203) (pc' := 207) rfl (hb hby at_203) (by decide) (by decide) k) ?_
    refine own_by (B := T47.setTop (mkF m 209 #[.val (.int i0), .val (.int i1), .val (.int i2), .val (.int i3), .val (.int i4), .val (.int i5), .val (.int (Int32.ofNat cap)), .val (.int (4 : Int32)), .val (.ref b41), .val (.ref b47), .val (.int (1 : Int32)), .unset] [])) (fun t k => XS.istore X47.here hx rfl (hb hby at_207) rfl (l' := #[.val (.int i0), .val (.int i1), .val (.int i2), .val (.int i3), .val (.int i4), .val (.int i5), .val (.int (Int32.ofNat cap)), .val (.int (4 : Int32)), .val (.ref b41), .val (.ref b47), .val (.int (1 : Int32)), .unset]) rfl k) ?_
    refine own_by (B := T47.setTop (mkF m 211 #[.val (.int i0), .val (.int i1), .val (.int i2), .val (.int i3), .val (.int i4), .val (.int i5), .val (.int (Int32.ofNat cap)), .val (.int (4 : Int32)), .val (.ref b41), .val (.ref b47), .val (.int (1 : Int32)), .unset] [(.int (4 : Int32))])) (fun t k => XS.iload X47.here hx rfl (hb hby at_209) rfl k) ?_
    refine own_by (B := T47.setTop (mkF m 214 #[.val (.int i0), .val (.int i1), .val (.int i2), .val (.int i3), .val (.int i4), .val (.int i5), .val (.int (Int32.ofNat cap)), .val (.int (4 : Int32)), .val (.ref b41), .val (.ref b47), .val (.int (1 : Int32)), .unset] [])) (fun t k => XS.ifNo X47.here hx rfl (hb hby at_211) rfl ((if0 _ _).trans (tlt (by decide)).2.2.2) k) ?_
    refine own_by (B := T47.setTop (mkF m 216 #[.val (.int i0), .val (.int i1), .val (.int i2), .val (.int i3), .val (.int i4), .val (.int i5), .val (.int (Int32.ofNat cap)), .val (.int (4 : Int32)), .val (.ref b41), .val (.ref b47), .val (.int (1 : Int32)), .unset] [(.ref b47)])) (fun t k => XS.aload X47.here hx rfl (hb hby at_214) rfl rfl k) ?_
    refine own_by (B := T47.setTop (mkF m 217 #[.val (.int i0), .val (.int i1), .val (.int i2), .val (.int i3), .val (.int i4), .val (.int i5), .val (.int (Int32.ofNat cap)), .val (.int (4 : Int32)), .val (.ref b41), .val (.ref b47), .val (.int (1 : Int32)), .unset] [(.int (0 : Int32)), (.ref b47)])) (fun t k => XS.iconst X47.here hx rfl (hb hby at_216) k) ?_
    refine own_by (B := T47.setTop (mkF m 218 #[.val (.int i0), .val (.int i1), .val (.int i2), .val (.int i3), .val (.int i4), .val (.int i5), .val (.int (Int32.ofNat cap)), .val (.int (4 : Int32)), .val (.ref b41), .val (.ref b47), .val (.int (1 : Int32)), .unset] [(.int i1), (.int (0 : Int32)), (.ref b47)])) (fun t k => XS.iloadN X47.here hx rfl (hb hby at_217) rfl k) ?_
    refine own_by (B := T47.setTop (mkF m 219 #[.val (.int i0), .val (.int i1), .val (.int i2), .val (.int i3), .val (.int i4), .val (.int i5), .val (.int (Int32.ofNat cap)), .val (.int (4 : Int32)), .val (.ref b41), .val (.ref b47), .val (.int (1 : Int32)), .unset] [(.int (-1 : Int32)), (.int i1), (.int (0 : Int32)), (.ref b47)])) (fun t k => XS.iconst X47.here hx rfl (hb hby at_218) k) ?_
    refine own_by (B := T47.setTop (mkF m 220 #[.val (.int i0), .val (.int i1), .val (.int i2), .val (.int i3), .val (.int i4), .val (.int i5), .val (.int (Int32.ofNat cap)), .val (.int (4 : Int32)), .val (.ref b41), .val (.ref b47), .val (.int (1 : Int32)), .unset] [(.int (i1 ^^^ (-1 : Int32))), (.int (0 : Int32)), (.ref b47)])) (fun t k => XS.ixor X47.here hx rfl (hb hby at_219) rfl k) ?_
    obtain ⟨cl53, Ar53, hin53, -⟩ := V_b47.at (j := (0 : Int32)) ⟨by decide, by decide⟩
    obtain ⟨T53, h53, X53, e53, W53, st53⟩ := stI X47 hx hZ rfl Ar53 (j := (0 : Int32)) hin53 (g := (mkF m 220 #[.val (.int i0), .val (.int i1), .val (.int i2), .val (.int i3), .val (.int i4), .val (.int i5), .val (.int (Int32.ofNat cap)), .val (.int (4 : Int32)), .val (.ref b41), .val (.ref b47), .val (.int (1 : Int32)), .unset] [(.int (i1 ^^^ (-1 : Int32))), (.int (0 : Int32)), (.ref b47)])) rfl rfl (hb hby at_220)
    have E_b41 := E_b41.wr W53
    have F_size_b41 := F_size_b41.other W53 (Or.inl ne_b41_b47)
    have F_entries_b41 := F_entries_b41.other W53 (Or.inl ne_b41_b47)
    have V_b46 := V_b46.other W53 ne_b46_b47
    have V_b47 := V_b47.set W53
    have Zs : n0 ≤ h53.size := by rw [W53.size]; exact Zs
    have Nf := Fr.snoc X53 Nf g_b47
    refine own_by (B := T53.setTop (mkF m 221 #[.val (.int i0), .val (.int i1), .val (.int i2), .val (.int i3), .val (.int i4), .val (.int i5), .val (.int (Int32.ofNat cap)), .val (.int (4 : Int32)), .val (.ref b41), .val (.ref b47), .val (.int (1 : Int32)), .unset] [])) st53 ?_
    refine own_by (B := T53.setTop (mkF m 223 #[.val (.int i0), .val (.int i1), .val (.int i2), .val (.int i3), .val (.int i4), .val (.int i5), .val (.int (Int32.ofNat cap)), .val (.int (4 : Int32)), .val (.ref b41), .val (.ref b47), .val (.int (1 : Int32)), .unset] [(.ref b41)])) (fun t k => XS.aload X53.here hx rfl (hb hby at_221) rfl rfl k) ?_
    obtain ⟨cq54, kq54, q54a, q54b, q54c⟩ := isOf hZ e53 E_b41
    obtain ⟨_, _, ⟨T54, L54, k54, n54⟩, -, X54, ⟨Lc54, hQ54, l54, y54, z54⟩, st54⟩ := X53.virtualBack hx (y := (⟨"com/example/surrogate/surrogate/index/Entries", "numbers", "()[I"⟩ : MethodName)) (z := (⟨"com/example/surrogate/surrogate/index/Entries", "numbers", "()[I"⟩ : MethodName)) hown (mvT hZ (hw _ (List.mem_of_getElem? (i := 12) rfl))) (mvT hZ (hw _ (List.mem_of_getElem? (i := 13) rfl))) (notFace_of_selects (args := #[]) (mvT hZ (hw _ (List.mem_of_getElem? (i := 15) rfl)))) (mvT hZ (hw _ (List.mem_of_getElem? (i := 15) rfl))) (mvT hZ (hw _ (List.mem_of_getElem? (i := 14) rfl))) (by decide) (backOf (W := 0) (rmF4 l Z a0 hw [] b41 b46 mz46 f46 i1 i2 i3 i4 h53 n0 Zs F_size_b41 F_entries_b41 V_b46 ne_b41_b46 (by omega) (by omega) hA46_0 hA46_1 hA46_2 hA46_3) hZ (hw _ (List.mem_of_getElem? (i := 16) rfl)) (hw _ (List.mem_of_getElem? (i := 2) rfl)) (by decide) (by decide)) q54a q54c (g := (mkF m 223 #[.val (.int i0), .val (.int i1), .val (.int i2), .val (.int i3), .val (.int i4), .val (.int i5), .val (.int (Int32.ofNat cap)), .val (.int (4 : Int32)), .val (.ref b41), .val (.ref b47), .val (.int (1 : Int32)), .unset] [(.ref b41)])) rfl (by rw [hml]; rfl) (Steps.refl _) (argsL := []) (rest := []) (lenOf own_pd3 rfl) rfl (by show 2 * 0 + _ ≤ _; exact Nat.le_of_eq rfl) (hb hby at_223) (fun _ _ => ⟨rfl, e53, (by decide : 7 + 1 ≤ _), (by decide : 60 + 4 ≤ _)⟩)
    dsimp only [Pt.U, Pt.locs, Pt.cells, Pt.slots] at X54 l54 y54 z54 st54 hQ54
    subst l54 y54 z54
    obtain ⟨rfl, Nq54, Kc54, g54, Vc54, hg54_0, hg54_1, hg54_2, hg54_3⟩ := hQ54
    have Nf := Fr.app Nf Nq54
    obtain ⟨b54, gq54⟩ : ∃ z, z = h53.size := ⟨_, rfl⟩
    rw [← gq54] at Vc54 st54
    have ne_b41_b54 : b41 ≠ b54 := Nat.ne_of_lt (Nat.lt_of_lt_of_le E_b41.lt (Nat.le_of_eq gq54.symm))
    have ne_b46_b54 : b46 ≠ b54 := Nat.ne_of_lt (Nat.lt_of_lt_of_le V_b46.lt (Nat.le_of_eq gq54.symm))
    have ne_b47_b54 : b47 ≠ b54 := Nat.ne_of_lt (Nat.lt_of_lt_of_le V_b47.lt (Nat.le_of_eq gq54.symm))
    have g_b54 : n0 ≤ b54 := Nat.le_trans Zs (Nat.le_of_eq gq54.symm)
    have E_b41 := E_b41.keep Kc54
    have F_size_b41 := F_size_b41.keep Kc54 nin0
    have F_entries_b41 := F_entries_b41.keep Kc54 nin0
    have V_b46 := V_b46.keep Kc54 nin0
    have V_b47 := V_b47.keep Kc54 nin0
    have Zs := Nat.le_trans Zs Kc54.1
    have V_b54 := Vc54
    refine own_by (B := T54.setTop (mkF m 226 #[.val (.int i0), .val (.int i1), .val (.int i2), .val (.int i3), .val (.int i4), .val (.int i5), .val (.int (Int32.ofNat cap)), .val (.int (4 : Int32)), .val (.ref b41), .val (.ref b47), .val (.int (1 : Int32)), .unset] [(.ref b54)])) (fun t k => st54.trans k) ?_
    refine own_by (B := T54.setTop (mkF m 228 #[.val (.int i0), .val (.int i1), .val (.int i2), .val (.int i3), .val (.int i4), .val (.int i5), .val (.int (Int32.ofNat cap)), .val (.int (4 : Int32)), .val (.ref b41), .val (.ref b47), .val (.int (1 : Int32)), .val (.ref b54)] [])) (fun t k => XS.astore X54.here hx rfl (hb hby at_226) rfl rfl (l' := #[.val (.int i0), .val (.int i1), .val (.int i2), .val (.int i3), .val (.int i4), .val (.int i5), .val (.int (Int32.ofNat cap)), .val (.int (4 : Int32)), .val (.ref b41), .val (.ref b47), .val (.int (1 : Int32)), .val (.ref b54)]) rfl k) ?_
    refine own_by (B := T54.setTop (mkF m 230 #[.val (.int i0), .val (.int i1), .val (.int i2), .val (.int i3), .val (.int i4), .val (.int i5), .val (.int (Int32.ofNat cap)), .val (.int (4 : Int32)), .val (.ref b41), .val (.ref b47), .val (.int (1 : Int32)), .val (.ref b54)] [(.ref b54)])) (fun t k => XS.aload X54.here hx rfl (hb hby at_228) rfl rfl k) ?_
    refine own_by (B := T54.setTop (mkF m 232 #[.val (.int i0), .val (.int i1), .val (.int i2), .val (.int i3), .val (.int i4), .val (.int i5), .val (.int (Int32.ofNat cap)), .val (.int (4 : Int32)), .val (.ref b41), .val (.ref b47), .val (.int (1 : Int32)), .val (.ref b54)] [(.ref b47), (.ref b54)])) (fun t k => XS.aload X54.here hx rfl (hb hby at_230) rfl rfl k) ?_
    refine own_by (B := T54.setTop (mkF m 235 #[.val (.int i0), .val (.int i1), .val (.int i2), .val (.int i3), .val (.int i4), .val (.int i5), .val (.int (Int32.ofNat cap)), .val (.int (4 : Int32)), .val (.ref b41), .val (.ref b47), .val (.int (1 : Int32)), .val (.ref b54)] [])) (fun t k => Jvm.RoadKit.acmp (g := (mkF m 232 #[.val (.int i0), .val (.int i1), .val (.int i2), .val (.int i3), .val (.int i4), .val (.int i5), .val (.int (Int32.ofNat cap)), .val (.int (4 : Int32)), .val (.ref b41), .val (.ref b47), .val (.int (1 : Int32)), .val (.ref b54)] [(.ref b47), (.ref b54)])) X54 hx rfl rfl rfl (pc0 := 232) (pc' := 235) (same := false) rfl (hb hby at_232) rfl (decide_eq_false fun q => (Ne.symm ne_b47_b54) (Value.ref.inj q)) (by decide) (by decide) k) ?_
    refine own_by (B := T54.setTop (mkF m 237 #[.val (.int i0), .val (.int i1), .val (.int i2), .val (.int i3), .val (.int i4), .val (.int i5), .val (.int (Int32.ofNat cap)), .val (.int (4 : Int32)), .val (.ref b41), .val (.ref b47), .val (.int (1 : Int32)), .val (.ref b54)] [(.ref b54)])) (fun t k => XS.aload X54.here hx rfl (hb hby at_235) rfl rfl k) ?_
    obtain ⟨cl55, Ar55, Sz55, Ng55, -⟩ := id V_b54
    refine own_by (B := T54.setTop (mkF m 238 #[.val (.int i0), .val (.int i1), .val (.int i2), .val (.int i3), .val (.int i4), .val (.int i5), .val (.int (Int32.ofNat cap)), .val (.int (4 : Int32)), .val (.ref b41), .val (.ref b47), .val (.int (1 : Int32)), .val (.ref b54)] [(.int (4 : Int32))])) (fun t k => X54.arraylength hx Ar55.1 (State.isArrayOf_alike hZ.alike Ar55.2.1) (g := (mkF m 237 #[.val (.int i0), .val (.int i1), .val (.int i2), .val (.int i3), .val (.int i4), .val (.int i5), .val (.int (Int32.ofNat cap)), .val (.int (4 : Int32)), .val (.ref b41), .val (.ref b47), .val (.int (1 : Int32)), .val (.ref b54)] [(.ref b54)])) rfl rfl (hb hby at_237) _ (by rw [len_of Sz55 Ng55]; exact k)) ?_
    refine own_by (B := T54.setTop (mkF m 240 #[.val (.int i0), .val (.int i1), .val (.int i2), .val (.int i3), .val (.int i4), .val (.int i5), .val (.int (Int32.ofNat cap)), .val (.int (4 : Int32)), .val (.ref b41), .val (.ref b47), .val (.int (1 : Int32)), .val (.ref b54)] [(.int (4 : Int32)), (.int (4 : Int32))])) (fun t k => XS.iload X54.here hx rfl (hb hby at_238) rfl k) ?_
    refine own_by (B := T54.setTop (mkF m 243 #[.val (.int i0), .val (.int i1), .val (.int i2), .val (.int i3), .val (.int i4), .val (.int i5), .val (.int (Int32.ofNat cap)), .val (.int (4 : Int32)), .val (.ref b41), .val (.ref b47), .val (.int (1 : Int32)), .val (.ref b54)] [])) (fun t k => XS.icmpNo X54.here hx rfl (hb hby at_240) rfl (teq (by decide)).2 k) ?_
    refine own_by (B := T54.setTop (mkF m 245 #[.val (.int i0), .val (.int i1), .val (.int i2), .val (.int i3), .val (.int i4), .val (.int i5), .val (.int (Int32.ofNat cap)), .val (.int (4 : Int32)), .val (.ref b41), .val (.ref b47), .val (.int (1 : Int32)), .val (.ref b54)] [(.ref b54)])) (fun t k => XS.aload X54.here hx rfl (hb hby at_243) rfl rfl k) ?_
    refine own_by (B := T54.setTop (mkF m 246 #[.val (.int i0), .val (.int i1), .val (.int i2), .val (.int i3), .val (.int i4), .val (.int i5), .val (.int (Int32.ofNat cap)), .val (.int (4 : Int32)), .val (.ref b41), .val (.ref b47), .val (.int (1 : Int32)), .val (.ref b54)] [(.int (0 : Int32)), (.ref b54)])) (fun t k => XS.iconst X54.here hx rfl (hb hby at_245) k) ?_
    obtain ⟨cl56, Ar56, hin56, hat56⟩ := V_b54.at (j := (0 : Int32)) ⟨by decide, by decide⟩
    have hat56 := hat56.trans (congrArg some (show _ = (.int i1) from hg54_0))
    refine own_by (B := T54.setTop (mkF m 247 #[.val (.int i0), .val (.int i1), .val (.int i2), .val (.int i3), .val (.int i4), .val (.int i5), .val (.int (Int32.ofNat cap)), .val (.int (4 : Int32)), .val (.ref b41), .val (.ref b47), .val (.int (1 : Int32)), .val (.ref b54)] [(.int i1)])) (fun t k => X54.iaload hx (j := (0 : Int32)) (v := (.int i1)) Ar56.1 (State.isArrayOf_alike hZ.alike Ar56.2.1) Ar56.2.2 hin56 hat56 (g := (mkF m 246 #[.val (.int i0), .val (.int i1), .val (.int i2), .val (.int i3), .val (.int i4), .val (.int i5), .val (.int (Int32.ofNat cap)), .val (.int (4 : Int32)), .val (.ref b41), .val (.ref b47), .val (.int (1 : Int32)), .val (.ref b54)] [(.int (0 : Int32)), (.ref b54)])) rfl rfl (hb hby at_246) _ k) ?_
    refine own_by (B := T54.setTop (mkF m 248 #[.val (.int i0), .val (.int i1), .val (.int i2), .val (.int i3), .val (.int i4), .val (.int i5), .val (.int (Int32.ofNat cap)), .val (.int (4 : Int32)), .val (.ref b41), .val (.ref b47), .val (.int (1 : Int32)), .val (.ref b54)] [(.int i1), (.int i1)])) (fun t k => XS.iloadN X54.here hx rfl (hb hby at_247) rfl k) ?_
    refine own_by (B := T54.setTop (mkF m 253 #[.val (.int i0), .val (.int i1), .val (.int i2), .val (.int i3), .val (.int i4), .val (.int i5), .val (.int (Int32.ofNat cap)), .val (.int (4 : Int32)), .val (.ref b41), .val (.ref b47), .val (.int (1 : Int32)), .val (.ref b54)] [])) (fun t k => XS.icmpYes X54.here hx rfl (pc0 := 248) (pc' := 253) rfl (hb hby at_248) rfl (teq rfl).1 (by decide) (by decide) k) ?_
    refine own_by (B := T54.setTop (mkF m 255 #[.val (.int i0), .val (.int i1), .val (.int i2), .val (.int i3), .val (.int i4), .val (.int i5), .val (.int (Int32.ofNat cap)), .val (.int (4 : Int32)), .val (.ref b41), .val (.ref b47), .val (.int (1 : Int32)), .val (.ref b54)] [(.int (1 : Int32))])) (fun t k => XS.iload X54.here hx rfl (hb hby at_253) rfl k) ?_
    exact own_end X54 (v := some (.int (1 : Int32))) (fun h => by rw [Bd.returns] at h; cases h) (BodyLoose.notSynchronized Bd) (Q := (Q_rm0 Z i0 i1 i2 i3 i4 i5 h0 n0)) (fun fs hr => retN X54 hx (t := .boolean) Bd.returns (by simp) (hb hby at_255) hr) (show (Q_rm0 Z i0 i1 i2 i3 i4 i5 h0 n0) _ T54.heap _ from (⟨rfl, Nf⟩)) (by decide) (by decide)
set_option maxRecDepth 65536 in
set_option maxHeartbeats 40000000 in
theorem comes_1 {Post : Tables → Env → Array Value → State → Outcome → State → Prop} (hpost : ∀ tb e args s v u, (limb_1_1.after args s (.returned v) u = true ∧ limb_1_2.after args s (.returned v) u = true ∧ True) → FrameEnd s (.returned v) u (Jvm.fieldLocs frame_1_writes args s ++ Jvm.arrayLocs frame_1_arrays args s ++ Jvm.staticLocs frame_1_statics s) 24 128 → Post tb e args s (.returned v) u) :
    ArmFor flags0 classFile x code maxLocals ret World_1 tables_1 room_1 Calls_1 rest_1 Pre_1 Post := by
  intro l hfl _ _ p e ha hc hk s m args below hf hA hF happ hP
  obtain ⟨hcalls, hrest, hpre⟩ := hP
  obtain ⟨-, -, -, hnamed, -, -, -, hat⟩ := (Spec.applies_iff hf).mp happ
  obtain ⟨hg, hn⟩ := and_e (Cond.before_iff.mp (show (Jvm.Cond.and given_1 narrow_1).before args s = true from hpre))
  obtain ⟨hcount, hg0⟩ := and_e hg
  obtain ⟨hv0, hg1⟩ := and_e hg0
  obtain ⟨hv1, hg2⟩ := and_e hg1
  obtain ⟨hv2, hg3⟩ := and_e hg2
  obtain ⟨hv3, hg4⟩ := and_e hg3
  obtain ⟨hv4, hg5⟩ := and_e hg4
  have hv5 := hg5
  obtain ⟨w0, w1, w2, w3, w4, w5, rfl⟩ : ∃ w0 w1 w2 w3 w4 w5 : Value, args = #[w0, w1, w2, w3, w4, w5] := by
    have hs : args.size = 6 := by simpa [Cond.value, given_1] using hcount
    obtain ⟨L⟩ := args
    match L, hs with
    | [w0, w1, w2, w3, w4, w5], _ => exact ⟨w0, w1, w2, w3, w4, w5, rfl⟩
  have hw := fun d (hd : d ∈ tables_1) => atoms_spec (ws := Jvm.Cond.code x code maxLocals ret :: tables_1) hat d (List.mem_cons_of_mem _ hd)
  have hfit : Fit s := fun {y c} hc i hi => by
    obtain ⟨ha, rfl⟩ := Array.getElem?_eq_some_iff.mp hc
    have q := List.all_eq_true.mp ((Array.all_eq_true_iff_forall_mem.mp hF) _ (Array.getElem_mem ha)) i (List.mem_range.mpr hi)
    simpa [Array.getElem?_eq_getElem hi] using q
  obtain ⟨i0, ei0⟩ := is_v hv0
  obtain rfl : w0 = (.int i0) := Option.some.inj ei0
  obtain ⟨i1, ei1⟩ := is_v hv1
  obtain rfl : w1 = (.int i1) := Option.some.inj ei1
  obtain ⟨i2, ei2⟩ := is_v hv2
  obtain rfl : w2 = (.int i2) := Option.some.inj ei2
  obtain ⟨i3, ei3⟩ := is_v hv3
  obtain rfl : w3 = (.int i3) := Option.some.inj ei3
  obtain ⟨i4, ei4⟩ := is_v hv4
  obtain rfl : w4 = (.int i4) := Option.some.inj ei4
  obtain ⟨i5, ei5⟩ := is_v hv5
  obtain rfl : w5 = (.int i5) := Option.some.inj ei5
  obtain ⟨n, o, h1, h2, h3, _, L, rfl, ⟨rfl, N⟩, hq⟩ := rm0 l s _ hw tables_1 i0 i1 i2 i3 i4 i5 s.heap s.heap.size (Nat.le_refl _)  p e ha hc hk s m _ below hf ((Spec.applies_iff_loose hf).mp happ).1 ⟨rfl, State.Warmed39.refl s, rfl⟩ trivial
  refine ⟨n, _, h1, h2, h3, hpost _ _ _ _ _ _ ⟨Cond.after_iff.mpr rfl, Cond.after_iff.mpr (eq_i res_at (Term.int_eval (1)) rfl), trivial⟩ ⟨hq.1, hq.2.1, (hq.2.2.sift fun y hy => Or.inr (N y hy)).mono (by decide) (by decide)⟩⟩
theorem main_1_1 : Claimed_1_1 := comes_1 fun _ _ _ _ _ _ h hF => ⟨h.1, hF⟩
theorem main_1_2 : Claimed_1_2 := comes_1 fun _ _ _ _ _ _ h hF => ⟨h.2.1, hF⟩
end Jvm.Pilot.@@N@@
namespace Jvm.Pilot.@@N@@
open Jvm Jvm.ClassFile Sem Op Lib Jvm.Free Jvm.Stand Jvm.Pilot.@@N@@.Jvm.D
/-! MADE BY PROGRAM (witnessworld.py) out of the Statement's table words and the real class files: 12 classes; the members and pool entries that the words name. The judged class is class 1, her method 1. -/
namespace start1
open Jvm.ClassFile
def u (s : String) : CpInfo := .utf8 (stringToUtf16 s)
/-- a pool by its gaps: so many unusable entries, then the entry; so many at the end -/
def gap : Nat → List CpInfo → List CpInfo
  | 0, r => r
  | n + 1, r => .unusable :: gap n r
def poolList (es : List (Nat × CpInfo)) (last : Nat) : List CpInfo := es.foldr (fun e r => gap e.1 (e.2 :: r)) (gap last [])
def pool (es : List (Nat × CpInfo)) (last : Nat) : Array CpInfo := ⟨poolList es last⟩
def fileOf (pool : Array CpInfo) (this : Nat) (attrs : Array Attribute := #[]) (ms : Array MethodInfo := #[]) (fl : Nat := 33) (sup : Nat := 0) (ifs : Array Nat := #[]) (fds : Array FieldInfo := #[]) : ClassFile where
  minorVersion := 0
  majorVersion := 65
  constantPool := pool
  accessFlags := fl
  thisClass := this
  superClass := sup
  interfaces := ifs
  fields := fds
  methods := ms
  attributes := attrs
def plain (name : String) (sup : Option ClassId) : Class where
  name := name
  kind := .ordinary
  loader := none
  accessFlags := 33
  super := sup
  interfaces := #[]
  cf := none
  fields := #[]
  methods := #[]
  instanceTypes := #[]
  staticTypes := #[]
  resolved := #[]
  callSites := []
  init := .initialized
  statics := none
  mirror := none

def pool0 : Array CpInfo := pool [(5, u "<init>"), (0, u "()V"), (1, .class_ 10), (1, u "java/lang/Object")] 113

def k0c0 : Code := { maxStack := 0, maxLocals := 1, code := object_method_1_code, exceptionTable := #[], attributes := #[] }
def k0m0 : Method := { name := "<init>", desc := "()V", sig := { parameters := [], returnType := none }, accessFlags := 1, code := some k0c0 }
/-- java/lang/Object -/
def k0 : Class := { plain "java/lang/Object" none with
  accessFlags := 33
  interfaces := #[]
  cf := some (fileOf pool0 8 #[] #[{ accessFlags := 1, nameIndex := 5, descriptorIndex := 6, attributes := #[] }] 33 0 #[] #[])
  fields := #[]
  methods := #[k0m0]
  instanceTypes := #[]
  staticTypes := #[]
  resolved := Array.replicate 124 none
  statics := none }

def pool1 : Array CpInfo := pool [(2, .class_ 4), (1, u "java/lang/Object"), (0, u "<init>"), (0, u "()V"), (0, .class_ 8), (0, u "com/example/surrogate/surrogate/index/Entries"), (0, .methodref 7 10), (0, .nameAndType 5 11), (0, u "(I)V"), (0, .methodref 7 13), (0, .nameAndType 14 15), (0, u "add"), (0, u "(II)V"), (0, .methodref 7 17), (0, .nameAndType 18 19), (0, u "numbers"), (0, u "()[I"), (0, .class_ 21), (0, u "com/example/surrogate/surrogate/index/EntriesNumbersPinLaw"), (2, u "law"), (0, u "(IIIIII)Z")] 5

def k1m0 : Method := { name := "<init>", desc := "()V", sig := { parameters := [], returnType := none }, accessFlags := 1, code := none }
def k1c1 : Code := { maxStack := 4, maxLocals := 12, code := code, exceptionTable := #[], attributes := #[] }
def k1m1 : Method := { name := "law", desc := "(IIIIII)Z", sig := { parameters := [.int, .int, .int, .int, .int, .int], returnType := some .boolean }, accessFlags := 9, code := some k1c1 }
/-- com/example/surrogate/surrogate/index/EntriesNumbersPinLaw -/
def k1 : Class := { plain "com/example/surrogate/surrogate/index/EntriesNumbersPinLaw" (some 0) with
  accessFlags := 49
  interfaces := #[]
  cf := some (fileOf pool1 20 #[] #[{ accessFlags := 1, nameIndex := 5, descriptorIndex := 6, attributes := #[] }, { accessFlags := 9, nameIndex := 24, descriptorIndex := 25, attributes := #[] }] 49 2 #[] #[])
  fields := #[]
  methods := #[k1m0, k1m1]
  instanceTypes := #[]
  staticTypes := #[]
  resolved := Array.replicate 31 none
  statics := none }

def pool2 : Array CpInfo := pool [(2, .class_ 4), (1, u "com/example/surrogate/surrogate/index/Entries"), (0, u "<init>"), (0, u "(I)V"), (0, .methodref 8 9), (0, .class_ 10), (0, .nameAndType 5 11), (0, u "java/lang/Object"), (0, u "()V"), (0, .fieldref 2 13), (0, .nameAndType 14 15), (0, u "entries"), (0, u "[I"), (0, .fieldref 2 17), (0, .nameAndType 18 19), (0, u "size"), (0, u "I"), (0, .methodref 21 22), (0, .class_ 23), (0, .nameAndType 24 25), (0, u "java/lang/Math"), (0, u "max"), (0, u "(II)I"), (0, .methodref 27 28), (0, .class_ 29), (0, .nameAndType 30 31), (0, u "java/util/Arrays"), (0, u "copyOf"), (0, u "([II)[I"), (8, u "add"), (0, u "(II)V"), (5, u "numbers"), (0, u "()[I")] 9

def k2m0 : Method := { name := "<init>", desc := "()V", sig := { parameters := [], returnType := none }, accessFlags := 0, code := none }
def k2c1 : Code := { maxStack := 3, maxLocals := 2, code := prog_20_method_2_code, exceptionTable := #[], attributes := #[] }
def k2m1 : Method := { name := "<init>", desc := "(I)V", sig := { parameters := [.int], returnType := none }, accessFlags := 0, code := some k2c1 }
def k2c2 : Code := { maxStack := 5, maxLocals := 3, code := prog_20_method_3_code, exceptionTable := #[], attributes := #[] }
def k2m2 : Method := { name := "add", desc := "(II)V", sig := { parameters := [.int, .int], returnType := none }, accessFlags := 0, code := some k2c2 }
def k2c3 : Code := { maxStack := 5, maxLocals := 3, code := prog_20_method_7_code, exceptionTable := #[], attributes := #[] }
def k2m3 : Method := { name := "numbers", desc := "()[I", sig := { parameters := [], returnType := some (.array .int) }, accessFlags := 0, code := some k2c3 }
/-- com/example/surrogate/surrogate/index/Entries -/
def k2 : Class := { plain "com/example/surrogate/surrogate/index/Entries" (some 0) with
  accessFlags := 48
  interfaces := #[]
  cf := some (fileOf pool2 2 #[] #[{ accessFlags := 0, nameIndex := 5, descriptorIndex := 11, attributes := #[] }, { accessFlags := 0, nameIndex := 5, descriptorIndex := 6, attributes := #[] }, { accessFlags := 0, nameIndex := 40, descriptorIndex := 41, attributes := #[] }, { accessFlags := 0, nameIndex := 47, descriptorIndex := 48, attributes := #[] }] 48 8 #[] #[{ accessFlags := 2, nameIndex := 14, descriptorIndex := 15, attributes := #[] }, { accessFlags := 2, nameIndex := 18, descriptorIndex := 19, attributes := #[] }])
  fields := #[{ name := "entries", type := (.array .int), accessFlags := 2, slot := 0, constantValue := 0 }, { name := "size", type := .int, accessFlags := 2, slot := 1, constantValue := 0 }]
  methods := #[k2m0, k2m1, k2m2, k2m3]
  instanceTypes := #[(.array .int), .int]
  staticTypes := #[]
  resolved := Array.replicate 58 none
  statics := none }

def pool3 : Array CpInfo := pool [(1, .class_ 2), (0, u "java/lang/Math"), (1, .class_ 6), (1, u "java/lang/Object"), (0, u "<init>"), (0, u "()V"), (89, .class_ 100), (1, u "java/lang/Math$RandomNumberGeneratorHolder"), (71, u "negativeZeroFloatBits"), (0, u "J"), (2, u "negativeZeroDoubleBits"), (21, u "max"), (2, u "min"), (43, u "$assertionsDisabled"), (0, u "Z"), (88, u "(II)I"), (2, u "twoToTheDoubleScaleDown"), (0, u "D"), (4, u "twoToTheDoubleScaleUp"), (9, u "E"), (3, u "PI"), (2, u "TAU"), (2, u "DEGREES_TO_RADIANS"), (0, u "RADIANS_TO_DEGREES")] 94

def k3m0 : Method := { name := "<init>", desc := "()V", sig := { parameters := [], returnType := none }, accessFlags := 2, code := none }
def k3c1 : Code := { maxStack := 2, maxLocals := 2, code := jdk_29_method_65_code, exceptionTable := #[], attributes := #[] }
def k3m1 : Method := { name := "max", desc := "(II)I", sig := { parameters := [.int, .int], returnType := some .int }, accessFlags := 9, code := some k3c1 }
def k3c2 : Code := { maxStack := 2, maxLocals := 2, code := jdk_29_method_69_code, exceptionTable := #[], attributes := #[] }
def k3m2 : Method := { name := "min", desc := "(II)I", sig := { parameters := [.int, .int], returnType := some .int }, accessFlags := 9, code := some k3c2 }
/-- java/lang/Math -/
def k3 : Class := { plain "java/lang/Math" (some 0) with
  accessFlags := 49
  interfaces := #[]
  cf := some (fileOf pool3 1 #[.nestMembers #[98]] #[{ accessFlags := 2, nameIndex := 7, descriptorIndex := 8, attributes := #[] }, { accessFlags := 9, nameIndex := 198, descriptorIndex := 335, attributes := #[] }, { accessFlags := 9, nameIndex := 201, descriptorIndex := 335, attributes := #[] }] 49 4 #[] #[{ accessFlags := 25, nameIndex := 354, descriptorIndex := 339, attributes := #[] }, { accessFlags := 25, nameIndex := 358, descriptorIndex := 339, attributes := #[] }, { accessFlags := 25, nameIndex := 361, descriptorIndex := 339, attributes := #[] }, { accessFlags := 26, nameIndex := 364, descriptorIndex := 339, attributes := #[] }, { accessFlags := 26, nameIndex := 365, descriptorIndex := 339, attributes := #[] }, { accessFlags := 26, nameIndex := 172, descriptorIndex := 173, attributes := #[] }, { accessFlags := 26, nameIndex := 176, descriptorIndex := 173, attributes := #[] }, { accessFlags := 8, nameIndex := 344, descriptorIndex := 339, attributes := #[] }, { accessFlags := 8, nameIndex := 338, descriptorIndex := 339, attributes := #[] }, { accessFlags := 4120, nameIndex := 245, descriptorIndex := 246, attributes := #[] }])
  fields := #[{ name := "E", type := .double, accessFlags := 25, slot := 0, constantValue := 0 }, { name := "PI", type := .double, accessFlags := 25, slot := 1, constantValue := 0 }, { name := "TAU", type := .double, accessFlags := 25, slot := 2, constantValue := 0 }, { name := "DEGREES_TO_RADIANS", type := .double, accessFlags := 26, slot := 3, constantValue := 0 }, { name := "RADIANS_TO_DEGREES", type := .double, accessFlags := 26, slot := 4, constantValue := 0 }, { name := "negativeZeroFloatBits", type := .long, accessFlags := 26, slot := 5, constantValue := 0 }, { name := "negativeZeroDoubleBits", type := .long, accessFlags := 26, slot := 6, constantValue := 0 }, { name := "twoToTheDoubleScaleUp", type := .double, accessFlags := 8, slot := 7, constantValue := 0 }, { name := "twoToTheDoubleScaleDown", type := .double, accessFlags := 8, slot := 8, constantValue := 0 }, { name := "$assertionsDisabled", type := .boolean, accessFlags := 4120, slot := 9, constantValue := 0 }]
  methods := #[k3m0, k3m1, k3m2]
  instanceTypes := #[]
  staticTypes := #[.double, .double, .double, .double, .double, .long, .long, .double, .double, .boolean]
  resolved := Array.replicate 460 none
  statics := none }

def pool4 : Array CpInfo := pool [(2, .class_ 4), (1, u "java/lang/Object"), (0, u "<init>"), (0, u "()V"), (7, .class_ 16), (1, u "java/util/Arrays"), (57, .class_ 76), (1, u "java/util/Arrays$NaturalOrder"), (36, .class_ 115), (1, u "java/util/Arrays$LegacyMergeSort"), (1, u "Z"), (32, .methodref 151 152), (0, .class_ 153), (0, .nameAndType 154 155), (0, u "java/lang/System"), (0, u "arraycopy"), (0, u "(Ljava/lang/Object;ILjava/lang/Object;II)V"), (146, u "copyOf"), (1, .methodref 305 306), (0, .class_ 307), (0, .nameAndType 308 309), (0, u "java/lang/Math"), (0, u "min"), (0, u "(II)I"), (65, .class_ 376), (0, u "java/util/Arrays$ArrayList"), (68, u "$assertionsDisabled"), (269, u "MIN_ARRAY_SORT_GRAN"), (0, u "I"), (2, u "INSERTIONSORT_THRESHOLD"), (151, u "([II)[I"), (103, .class_ 976), (0, u "java/util/Arrays$ArrayItr")] 52

def k4m0 : Method := { name := "<init>", desc := "()V", sig := { parameters := [], returnType := none }, accessFlags := 2, code := none }
def k4c1 : Code := { maxStack := 6, maxLocals := 3, code := jdk_65_method_123_code, exceptionTable := #[], attributes := #[] }
def k4m1 : Method := { name := "copyOf", desc := "([II)[I", sig := { parameters := [(.array .int), .int], returnType := some (.array .int) }, accessFlags := 9, code := some k4c1 }
/-- java/util/Arrays -/
def k4 : Class := { plain "java/util/Arrays" (some 0) with
  accessFlags := 49
  interfaces := #[]
  cf := some (fileOf pool4 14 #[.nestMembers #[975, 375, 113, 74]] #[{ accessFlags := 2, nameIndex := 5, descriptorIndex := 6, attributes := #[] }, { accessFlags := 9, nameIndex := 302, descriptorIndex := 871, attributes := #[] }] 49 2 #[] #[{ accessFlags := 26, nameIndex := 715, descriptorIndex := 716, attributes := #[] }, { accessFlags := 26, nameIndex := 719, descriptorIndex := 716, attributes := #[] }, { accessFlags := 4120, nameIndex := 445, descriptorIndex := 117, attributes := #[] }])
  fields := #[{ name := "MIN_ARRAY_SORT_GRAN", type := .int, accessFlags := 26, slot := 0, constantValue := 0 }, { name := "INSERTIONSORT_THRESHOLD", type := .int, accessFlags := 26, slot := 1, constantValue := 0 }, { name := "$assertionsDisabled", type := .boolean, accessFlags := 4120, slot := 2, constantValue := 0 }]
  methods := #[k4m0, k4m1]
  instanceTypes := #[]
  staticTypes := #[.int, .int, .boolean]
  resolved := Array.replicate 1029 none
  statics := none }

def pool5 : Array CpInfo := pool [(2, .class_ 4), (1, u "java/lang/Object"), (0, u "<init>"), (0, u "()V"), (1, .class_ 10), (1, u "java/lang/System"), (0, u "allowSecurityManager"), (0, u "I"), (16, u "cons"), (0, u "Ljava/io/Console;"), (77, .class_ 110), (1, u "java/lang/System$CallersHolder"), (43, u "initialErrStream"), (0, u "Ljava/io/PrintStream;"), (19, u "security"), (0, u "Ljava/lang/SecurityManager;"), (31, .class_ 209), (0, u "java/lang/System$1"), (7, u "props"), (0, u "Ljava/util/Properties;"), (2, u "lineSeparator"), (0, u "Ljava/lang/String;"), (96, .class_ 321), (1, u "java/lang/System$LoggerFinder"), (5, .class_ 328), (0, u "java/lang/System$Logger"), (67, u "err"), (2, u "out"), (91, u "notSupportedJnuEncoding"), (15, u "in"), (17, u "initialIn"), (0, u "Ljava/io/InputStream;"), (35, u "bootLayer"), (0, u "Ljava/lang/ModuleLayer;"), (99, .class_ 664), (0, u "java/lang/System$2"), (9, u "NEVER"), (2, u "MAYBE"), (49, u "arraycopy"), (0, u "(Ljava/lang/Object;ILjava/lang/Object;II)V"), (72, .class_ 802), (0, u "java/lang/System$Logger$Level")] 31

def k5m0 : Method := { name := "<init>", desc := "()V", sig := { parameters := [], returnType := none }, accessFlags := 2, code := none }
def k5m1 : Method := { name := "arraycopy", desc := "(Ljava/lang/Object;ILjava/lang/Object;II)V", sig := { parameters := [(.object "java/lang/Object"), .int, (.object "java/lang/Object"), .int, .int], returnType := none }, accessFlags := 265, code := none }
/-- java/lang/System -/
def k5 : Class := { plain "java/lang/System" (some 0) with
  accessFlags := 49
  interfaces := #[]
  cf := some (fileOf pool5 8 #[.nestMembers #[319, 327, 801, 108, 663, 208]] #[{ accessFlags := 2, nameIndex := 5, descriptorIndex := 6, attributes := #[] }, { accessFlags := 265, nameIndex := 727, descriptorIndex := 728, attributes := #[] }] 49 2 #[] #[{ accessFlags := 25, nameIndex := 507, descriptorIndex := 526, attributes := #[] }, { accessFlags := 25, nameIndex := 399, descriptorIndex := 155, attributes := #[] }, { accessFlags := 25, nameIndex := 396, descriptorIndex := 155, attributes := #[] }, { accessFlags := 10, nameIndex := 525, descriptorIndex := 526, attributes := #[] }, { accessFlags := 26, nameIndex := 674, descriptorIndex := 12, attributes := #[] }, { accessFlags := 26, nameIndex := 677, descriptorIndex := 12, attributes := #[] }, { accessFlags := 10, nameIndex := 11, descriptorIndex := 12, attributes := #[] }, { accessFlags := 74, nameIndex := 175, descriptorIndex := 176, attributes := #[] }, { accessFlags := 10, nameIndex := 491, descriptorIndex := 222, attributes := #[] }, { accessFlags := 74, nameIndex := 29, descriptorIndex := 30, attributes := #[] }, { accessFlags := 74, nameIndex := 154, descriptorIndex := 155, attributes := #[] }, { accessFlags := 10, nameIndex := 217, descriptorIndex := 218, attributes := #[] }, { accessFlags := 10, nameIndex := 221, descriptorIndex := 222, attributes := #[] }, { accessFlags := 8, nameIndex := 562, descriptorIndex := 563, attributes := #[] }])
  fields := #[{ name := "in", type := (.object "java/io/InputStream"), accessFlags := 25, slot := 0, constantValue := 0 }, { name := "out", type := (.object "java/io/PrintStream"), accessFlags := 25, slot := 1, constantValue := 0 }, { name := "err", type := (.object "java/io/PrintStream"), accessFlags := 25, slot := 2, constantValue := 0 }, { name := "initialIn", type := (.object "java/io/InputStream"), accessFlags := 10, slot := 3, constantValue := 0 }, { name := "NEVER", type := .int, accessFlags := 26, slot := 4, constantValue := 0 }, { name := "MAYBE", type := .int, accessFlags := 26, slot := 5, constantValue := 0 }, { name := "allowSecurityManager", type := .int, accessFlags := 10, slot := 6, constantValue := 0 }, { name := "security", type := (.object "java/lang/SecurityManager"), accessFlags := 74, slot := 7, constantValue := 0 }, { name := "notSupportedJnuEncoding", type := (.object "java/lang/String"), accessFlags := 10, slot := 8, constantValue := 0 }, { name := "cons", type := (.object "java/io/Console"), accessFlags := 74, slot := 9, constantValue := 0 }, { name := "initialErrStream", type := (.object "java/io/PrintStream"), accessFlags := 74, slot := 10, constantValue := 0 }, { name := "props", type := (.object "java/util/Properties"), accessFlags := 10, slot := 11, constantValue := 0 }, { name := "lineSeparator", type := (.object "java/lang/String"), accessFlags := 10, slot := 12, constantValue := 0 }, { name := "bootLayer", type := (.object "java/lang/ModuleLayer"), accessFlags := 8, slot := 13, constantValue := 0 }]
  methods := #[k5m0, k5m1]
  instanceTypes := #[]
  staticTypes := #[(.object "java/io/InputStream"), (.object "java/io/PrintStream"), (.object "java/io/PrintStream"), (.object "java/io/InputStream"), .int, .int, .int, (.object "java/lang/SecurityManager"), (.object "java/lang/String"), (.object "java/io/Console"), (.object "java/io/PrintStream"), (.object "java/util/Properties"), (.object "java/lang/String"), (.object "java/lang/ModuleLayer")]
  resolved := Array.replicate 834 none
  statics := none }

def pool6 : Array CpInfo := pool [(1, u "java/lang/Cloneable"), (0, .class_ 1), (0, u "java/lang/Object"), (0, .class_ 3)] 3

/-- java/lang/Cloneable -/
def k6 : Class := { plain "java/lang/Cloneable" (some 0) with
  accessFlags := 1537
  interfaces := #[]
  cf := some (fileOf pool6 2 #[] #[] 1537 4 #[] #[])
  fields := #[]
  methods := #[]
  instanceTypes := #[]
  staticTypes := #[]
  resolved := Array.replicate 8 none
  statics := none }

def pool7 : Array CpInfo := pool [(1, u "java/io/Serializable"), (0, .class_ 1), (0, u "java/lang/Object"), (0, .class_ 3)] 3

/-- java/io/Serializable -/
def k7 : Class := { plain "java/io/Serializable" (some 0) with
  accessFlags := 1537
  interfaces := #[]
  cf := some (fileOf pool7 2 #[] #[] 1537 4 #[] #[])
  fields := #[]
  methods := #[]
  instanceTypes := #[]
  staticTypes := #[]
  resolved := Array.replicate 8 none
  statics := none }

/-- the primitive byte -/
def k8 : Class := { plain "byte" none with kind := .primitive 'B', accessFlags := 0x411 }
/-- [B -/
def k9 : Class := { plain "[B" (some 0) with kind := .array 8 .byte, interfaces := #[6, 7], accessFlags := 1041 }

/-- the primitive int -/
def k10 : Class := { plain "int" none with kind := .primitive 'I', accessFlags := 0x411 }
/-- [I -/
def k11 : Class := { plain "[I" (some 0) with kind := .array 10 .int, interfaces := #[6, 7], accessFlags := 1041 }

def heap : Heap := #[]
def classes : Array Class := #[k0, k1, k2, k3, k4, k5, k6, k7, k8, k9, k10, k11]
def interned : List (Array UInt16 × Addr) := []
def slotsUsed : Nat := 0
def theMethod : MethodId := ⟨1, 1⟩
def args0 : Array Value := #[.int 9, .int 3, .int 4, .int 5, .int 6, .int 7]
def aboutOver (below : List Frame) : State where
  vm := { classes := classes, interned := interned.toArray }
  heap := heap
  slotsUsed := slotsUsed
  threads := #[{ frames := .invoking theMethod args0 :: below }]
def below0 : List Frame := [.native { method := ⟨0, 0⟩, args := #[] }]
def about1 : State := aboutOver below0
def p0 : Program := .bare "" "" ""
def e0 : Env := launch0.env 0 0 0
theorem w_frames : about1.frames = Frame.invoking theMethod args0 :: below0 := rfl
set_option maxRecDepth 65536 in
theorem w_args : argsFit about1.vm theMethod args0 = true := by decide +kernel
set_option maxRecDepth 65536 in
theorem w_heap : heapFits about1 = true := by decide +kernel
set_option maxRecDepth 65536 in
theorem w_runnable : about1.curStatus? = some .runnable := by decide +kernel
set_option maxRecDepth 65536 in
theorem w_alone : about1.alone = true := by decide +kernel
set_option maxRecDepth 65536 in
theorem w_named : about1.methodNamed? x = some theMethod := by decide +kernel
set_option maxRecDepth 65536 in
theorem w_hears : about1.hears theMethod below0 = true := by decide +kernel
set_option maxRecDepth 65536 in
theorem w_ripe : about1.ripe theMethod args0 below0 = true := by decide +kernel
theorem w_running : about1.status = .running := rfl
set_option maxRecDepth 65536 in
theorem w_room : about1.hasRoom e0.platform room_1 = true :=
  launch0.hasRoom_least _ room_1 (by decide +kernel) (by decide +kernel) (by decide +kernel) (by decide +kernel) (by decide +kernel) (by decide +kernel)
theorem allAtoms_all (ts : List Jvm.Cond) (a : Array Jvm.Value) (st : Jvm.State) : (allAtoms ts).before a st = ts.all (fun c => c.before a st) := by
  induction ts with
  | nil => rfl
  | cons c t ih =>
    show (Jvm.Cond.and c (allAtoms t)).before a st = _
    rw [Jvm.Cond.before_and, ih, List.all_cons]
def words1 : List Jvm.Cond := Jvm.Cond.code x code maxLocals ret :: tables_1
/-- a 'code' word, met by the world's own term for the bytes: nothing is compared byte by byte -/
theorem code_word {y : MethodName} {bytes : ByteArray} {mx : Nat} {rt : Option FieldType} {a : Array Value} {s : State} {m : MethodId} {meth : Method} {c : Code} (h1 : s.methodNamed? y = some m) (h2 : s.vm.method? m = some meth) (h3 : meth.code = some c) (h4 : c.code = bytes)
    (h5 : (c.maxLocals == mx && c.exceptionTable.isEmpty && decide (c.maxStack ≤ mostOperands) && decide (meth.sig.returnType = rt) && !meth.locks && decide (parseMethodDescriptor y.desc = some meth.sig)) = true) : (Jvm.Cond.code y bytes mx rt).before a s = true := by
  simp only [Bool.and_eq_true, beq_iff_eq, Bool.not_eq_true', decide_eq_true_eq] at h5
  obtain ⟨⟨⟨⟨⟨g1, g2⟩, g3⟩, g4⟩, g5⟩, g6⟩ := h5
  simp [Cond.before, Cond.holds, Cond.value, h1, h2, h3, h4, g1, g2, g3, g4, g5, g6]
def isCode : Jvm.Cond → Bool
  | .code _ _ _ _ => true
  | _ => false
theorem all_split {L : List Jvm.Cond} {P : Jvm.Cond → Bool} (h1 : L.all (fun c => isCode c || P c) = true) (h2 : ∀ c ∈ L.filter isCode, P c = true) : L.all P = true := by
  refine List.all_eq_true.mpr fun c hc => ?_
  have h := List.all_eq_true.mp h1 c hc
  rcases Bool.eq_false_or_eq_true (isCode c) with hi | hi
  · exact h2 c (List.mem_filter.mpr ⟨hc, hi⟩)
  · simpa [hi] using h
set_option maxRecDepth 65536 in
theorem w_c0 : (Jvm.Cond.code x code maxLocals ret).before args0 about1 = true := code_word (m := ⟨1, 1⟩) (meth := k1m1) (c := k1c1) (by decide +kernel) rfl rfl rfl (by decide +kernel)
set_option maxRecDepth 65536 in
theorem w_c1 : (Jvm.Cond.code ({ cls := "com/example/surrogate/surrogate/index/Entries", name := "<init>", desc := "(I)V" } : Jvm.MethodName) prog_20_method_2_code (2 : Nat) (Option.none : Option Jvm.ClassFile.FieldType)).before args0 about1 = true := code_word (m := ⟨2, 1⟩) (meth := k2m1) (c := k2c1) (by decide +kernel) rfl rfl rfl (by decide +kernel)
set_option maxRecDepth 65536 in
theorem w_c2 : (Jvm.Cond.code ({ cls := "java/lang/Object", name := "<init>", desc := "()V" } : Jvm.MethodName) object_method_1_code (1 : Nat) (Option.none : Option Jvm.ClassFile.FieldType)).before args0 about1 = true := code_word (m := ⟨0, 0⟩) (meth := k0m0) (c := k0c0) (by decide +kernel) rfl rfl rfl (by decide +kernel)
set_option maxRecDepth 65536 in
theorem w_c3 : (Jvm.Cond.code ({ cls := "com/example/surrogate/surrogate/index/Entries", name := "numbers", desc := "()[I" } : Jvm.MethodName) prog_20_method_7_code (3 : Nat) (Option.some (Jvm.ClassFile.FieldType.array Jvm.ClassFile.FieldType.int))).before args0 about1 = true := code_word (m := ⟨2, 3⟩) (meth := k2m3) (c := k2c3) (by decide +kernel) rfl rfl rfl (by decide +kernel)
set_option maxRecDepth 65536 in
theorem w_c4 : (Jvm.Cond.code ({ cls := "com/example/surrogate/surrogate/index/Entries", name := "add", desc := "(II)V" } : Jvm.MethodName) prog_20_method_3_code (3 : Nat) (Option.none : Option Jvm.ClassFile.FieldType)).before args0 about1 = true := code_word (m := ⟨2, 2⟩) (meth := k2m2) (c := k2c2) (by decide +kernel) rfl rfl rfl (by decide +kernel)
set_option maxRecDepth 65536 in
theorem w_c5 : (Jvm.Cond.code ({ cls := "java/lang/Math", name := "max", desc := "(II)I" } : Jvm.MethodName) jdk_29_method_65_code (2 : Nat) (Option.some Jvm.ClassFile.FieldType.int)).before args0 about1 = true := code_word (m := ⟨3, 1⟩) (meth := k3m1) (c := k3c1) (by decide +kernel) rfl rfl rfl (by decide +kernel)
set_option maxRecDepth 65536 in
theorem w_c6 : (Jvm.Cond.code ({ cls := "java/util/Arrays", name := "copyOf", desc := "([II)[I" } : Jvm.MethodName) jdk_65_method_123_code (3 : Nat) (Option.some (Jvm.ClassFile.FieldType.array Jvm.ClassFile.FieldType.int))).before args0 about1 = true := code_word (m := ⟨4, 1⟩) (meth := k4m1) (c := k4c1) (by decide +kernel) rfl rfl rfl (by decide +kernel)
set_option maxRecDepth 65536 in
theorem w_c7 : (Jvm.Cond.code ({ cls := "java/lang/Math", name := "min", desc := "(II)I" } : Jvm.MethodName) jdk_29_method_69_code (2 : Nat) (Option.some Jvm.ClassFile.FieldType.int)).before args0 about1 = true := code_word (m := ⟨3, 2⟩) (meth := k3m2) (c := k3c2) (by decide +kernel) rfl rfl rfl (by decide +kernel)
def codes1 : List Jvm.Cond := [Jvm.Cond.code x code maxLocals ret, Jvm.Cond.code ({ cls := "com/example/surrogate/surrogate/index/Entries", name := "<init>", desc := "(I)V" } : Jvm.MethodName) prog_20_method_2_code (2 : Nat) (Option.none : Option Jvm.ClassFile.FieldType), Jvm.Cond.code ({ cls := "java/lang/Object", name := "<init>", desc := "()V" } : Jvm.MethodName) object_method_1_code (1 : Nat) (Option.none : Option Jvm.ClassFile.FieldType), Jvm.Cond.code ({ cls := "com/example/surrogate/surrogate/index/Entries", name := "numbers", desc := "()[I" } : Jvm.MethodName) prog_20_method_7_code (3 : Nat) (Option.some (Jvm.ClassFile.FieldType.array Jvm.ClassFile.FieldType.int)), Jvm.Cond.code ({ cls := "com/example/surrogate/surrogate/index/Entries", name := "add", desc := "(II)V" } : Jvm.MethodName) prog_20_method_3_code (3 : Nat) (Option.none : Option Jvm.ClassFile.FieldType), Jvm.Cond.code ({ cls := "java/lang/Math", name := "max", desc := "(II)I" } : Jvm.MethodName) jdk_29_method_65_code (2 : Nat) (Option.some Jvm.ClassFile.FieldType.int), Jvm.Cond.code ({ cls := "java/util/Arrays", name := "copyOf", desc := "([II)[I" } : Jvm.MethodName) jdk_65_method_123_code (3 : Nat) (Option.some (Jvm.ClassFile.FieldType.array Jvm.ClassFile.FieldType.int)), Jvm.Cond.code ({ cls := "java/lang/Math", name := "min", desc := "(II)I" } : Jvm.MethodName) jdk_29_method_69_code (2 : Nat) (Option.some Jvm.ClassFile.FieldType.int)]
set_option maxRecDepth 65536 in
theorem codes_eq : words1.filter isCode = codes1 := rfl
theorem w_codes : ∀ c ∈ words1.filter isCode, c.before args0 about1 = true := by
  rw [codes_eq]
  intro c hc
  simp only [codes1, List.mem_cons, List.not_mem_nil, or_false] at hc
  rcases hc with rfl | rfl | rfl | rfl | rfl | rfl | rfl | rfl
  · exact w_c0
  · exact w_c1
  · exact w_c2
  · exact w_c3
  · exact w_c4
  · exact w_c5
  · exact w_c6
  · exact w_c7
set_option maxRecDepth 65536 in
theorem w_t1 : (words1.take 24).all (fun c => isCode c || c.before args0 about1) = true := by decide +kernel
set_option maxRecDepth 65536 in
theorem w_t2 : (words1.drop 24).all (fun c => isCode c || c.before args0 about1) = true := by decide +kernel
theorem w_tables : (allAtoms (Jvm.Cond.code x code maxLocals ret :: tables_1)).before args0 about1 = true := by
  rw [allAtoms_all]
  show words1.all (fun c => c.before args0 about1) = true
  refine all_split ?_ w_codes
  rw [← List.take_append_drop 24 words1, List.all_append, w_t1, w_t2]
  rfl
set_option maxRecDepth 65536 in
theorem w_case : (Jvm.Cond.and given_1 narrow_1).before args0 about1 = true := by decide +kernel
theorem w_applies : (headSpec (Jvm.Cond.code x code maxLocals ret :: tables_1) room_1).applies x e0.platform about1 = true :=
  (Spec.applies_iff w_frames).mpr ⟨w_running, w_runnable, w_alone, w_named, w_hears, w_ripe, w_room, w_tables⟩
theorem atStart : AtStart classFile x code maxLocals ret World_1 tables_1 room_1 Calls_1 rest_1 Pre_1 launch0 p0 e0 about1 theMethod args0 below0 :=
  ⟨lists_1, trivial, launch0.admits_env _ _ _, launch0.least_env, fairChoices_fair.cas, fairChoices_fair.clock, w_frames, w_args, w_heap, w_applies, trivial, trivial, w_case⟩
end start1
theorem witness_1 : WitnessClaimed_1 := ⟨start1.p0, start1.e0, start1.about1, start1.theMethod, start1.args0, start1.below0, start1.atStart⟩
end Jvm.Pilot.@@N@@
