import JvmDerived
import JvmDerived.Pilot.@@N@@Statement
import JvmDerived.Pilot.@@N@@Code
set_option linter.unusedVariables false
set_option linter.unusedSimpArgs false
namespace Jvm.RoadKit
open Sem ClassFile Op Lib Jvm.Stand Jvm.Free Jvm.LawKit
section New
variable {p : Program} {l : Launch} {e : Env} {R : Room} {s : State} {m : MethodId} {args : Array Value} {below : List Frame} {meth : Method} {c : Code} {T : State} {locs : List Loc} {cells slots : Nat}
theorem retI (X : Stand p l e R s m args below meth c T locs cells slots) (hx : p.tables.exec = Jvm.exec) {pc : Nat} {Ls : Array Slot} {z : Int32} {rest : List Value} (hret : meth.sig.returnType = some .int) (hd : decode c.code pc = .ok (.ireturn, 1)) {fs : List Frame}
    (hl : ∀ (f : JFrame) (acts : List Action), f.method = m → f.locked = none → f.entered = [] → (doReturn e (T.setTop f) acts (some (.int z))).1 = T.setFrames fs) : Steps p.tables e below (T.setTop (mkF m pc Ls (.int z :: rest))) (T.setFrames fs) := by
  have hm' : T.vm.method? m = some meth := X.method'
  have hn : narrow .int (.int z) = .int z := rfl
  show Steps p.tables e below (T.setTop { method := m, pc := pc, locals := Ls, stack := _ :: rest, locked := none }) _
  jvm_step X.here [X.here.top, hx, hd, hm', hret, hn]
  first | (intro acts; rw [hl _ acts rfl rfl rfl]) | rw [hl _ _ rfl rfl rfl]
  exact Steps.refl _
/-- the run from A ends, and P holds at the end -/
def own_Go (p : Program) (e : Env) (below : List Frame) (A : State) (P : State → Outcome → Prop) : Prop := ∃ s₂ o, Steps p.tables e below A s₂ ∧ s₂.status = .running ∧ Ended s₂ below o ∧ P s₂ o
theorem own_by {A B : State} {P : State → Outcome → Prop} (h : ∀ t, Steps p.tables e below B t → Steps p.tables e below A t) (g : own_Go p e below B P) : own_Go p e below A P := by
  obtain ⟨s2, o, h1, h2⟩ := g
  exact ⟨s2, o, h _ h1, h2⟩
theorem own_end (X : Stand p l e R s m args below meth c T locs cells slots) {v : Option Value} (hv : meth.sig.returnType = none → v = none) (hlk : meth.locks = false) {A : State} {Q : Option Value → Heap → List Loc → Prop} {k n : Nat}
    (hs : ∀ fs, (∀ (f : JFrame) (acts : List Action), f.method = m → f.locked = none → f.entered = [] → (doReturn e (T.setTop f) acts v).1 = T.setFrames fs) → Steps p.tables e below A (T.setFrames fs))
    (hq : Q v T.heap locs) (hk : cells ≤ k) (hn : slots ≤ n) : own_Go p e below A (fun t o => ∃ v L, o = .returned v ∧ Q v t.heap L ∧ FrameEnd s o t L k n) := by
  obtain ⟨fs, hr, hrun, hended, hW, hsame⟩ := X.leave (v := v) hv hlk
  exact ⟨_, _, hs fs hr, hrun, hended, _, _, rfl, hq, ⟨_, rfl⟩, hW, hsame.mono hk hn⟩
theorem own_endW {vm₁ : Vm} (X : Stand p l e R (s.setVm vm₁) m args below meth c T locs cells slots) {n0 : Nat} (hS : s.Since vm₁ n0) (hn0 : n0 ≤ T.heap.size) {v : Option Value} (hv : meth.sig.returnType = none → v = none) (hlk : meth.locks = false) {A : State} {Q : Option Value → Heap → List Loc → Prop} {k n : Nat}
    (hs : ∀ fs, (∀ (f : JFrame) (acts : List Action), f.method = m → f.locked = none → f.entered = [] → (doReturn e (T.setTop f) acts v).1 = T.setFrames fs) → Steps p.tables e below A (T.setFrames fs))
    (hq : Q v T.heap locs) (hk : cells ≤ k) (hn : slots ≤ n) : own_Go p e below A (fun t o => ∃ v L, o = .returned v ∧ Q v t.heap L ∧ ReturnedEndW s o t L k n) := by
  obtain ⟨fs, hr, hrun, hended, h1, h2, h3, h4⟩ := X.leaveW hS hn0 (v := v) hv hlk
  exact ⟨_, _, hs fs hr, hrun, hended, _, _, rfl, hq, h1, h2, h3, h4.mono hk hn⟩
theorem own_newPE {Z : State} {a0 : Array Value} {h : Heap} (X : Stand p l e R s m args below meth c T locs cells slots) (hx : p.tables.exec = Jvm.exec) (hZ : Z.Warmed39 s.vm) {aty : ArrayType} (w : (Cond.arrayClass (newarray.typeOf aty)).before a0 Z = true) (eT : T.heap = h) {g : JFrame} (hg : g.method = m) (hd : decode c.code g.pc = .ok (.newarray aty, 2)) {n : Int32} {rest : List Value} (hs : g.stack = .int n :: rest)
    (hn : ¬ n < 0) {cap : Nat} (hcap : n.toNatClampNeg ≤ cap) (hb : cap * 8 ≤ 536870912) (hc : cells + 1 ≤ R.cells) (hl : slots + cap ≤ R.slots) {ad : String} (had : "[" ++ (newarray.typeOf aty).toString = ad) :
    ∃ T' h' cA, Stand p l e R s m args below meth c T' locs (cells + 1) (slots + cap) ∧ T'.heap = h' ∧ Ext h h' ∧ Arr Z h' h.size (newA cA (newarray.typeOf aty) n) (newarray.typeOf aty) ∧ Exa Z h' h.size ad ∧
      ∀ target, Steps p.tables e below (T'.setTop { g with pc := g.pc + 2, stack := .ref h.size :: rest }) target → Steps p.tables e below (T.setTop g) target := by
  have hcb : componentBytes (newarray.typeOf aty) ≤ 8 := by cases aty <;> decide
  obtain ⟨cA, kA, comp, f1, f2, f3, Y, st⟩ := X.newarrayPrim hx (mvA hZ w) hg hd hs hn (Nat.le_trans (Nat.mul_le_mul hcap hcb) hb) hc (Nat.le_trans (Nat.add_le_add_left hcap _) hl)
  subst eT had
  have f1' : Z.vm.findClass ("[" ++ (newarray.typeOf aty).toString) = some cA := by rw [← hZ.alike.findClass]; exact f1
  obtain ⟨kZ, z1, -⟩ := Vm.findClass_spec f1'
  obtain ⟨k', z2, z3⟩ := hZ.alike.2.2 _ _ z1
  have ek : kA = k' := Option.some.inj (f2.symm.trans z2)
  have kd : kZ.kind = .array comp (newarray.typeOf aty) := by rw [← f3, ek, z3]
  have hN : (T.heap.push (newA cA (newarray.typeOf aty) n))[T.heap.size]? = some (newA cA (newarray.typeOf aty) n) := by simp
  refine ⟨_, _, cA, Y.more (Nat.le_refl _) (Nat.add_le_add_left hcap _), rfl, ext_of fun a q => ?_, ⟨hN, ⟨fun _ z => (by cases z), kZ, z1, comp, kd⟩, fun z => (by cases z)⟩, ⟨_, kZ, hN, f1', z1, rfl, fun ho => by rw [kd] at ho; cases ho⟩, st⟩
  exact (Array.getElem?_push_lt q).trans (Array.getElem?_eq_getElem q).symm
end New
section Arf
variable {Z : State} {h h' : Heap} {a b : Addr} {ty : FieldType} {n z : Int32} {f g : Nat → Value} {sl : Nat} {v : Value} {ws : List Addr} {k : ClassId}
/-- an array of n places, of which place i holds f i -/
def own_Arf (Z : State) (h : Heap) (a : Addr) (ty : FieldType) (n : Int32) (f : Nat → Value) : Prop := ∃ c : Cell, Arr Z h a c ty ∧ c.slots.size = n.toNatClampNeg ∧ ¬ n < 0 ∧ ∀ i, i < c.slots.size → c.slots[i]? = some (f i)
theorem own_Arf.lt (F : own_Arf Z h a ty n f) : a < h.size := by obtain ⟨c, A, -⟩ := F; exact A.lt
theorem own_Arf.ext (F : own_Arf Z h a ty n f) (E : Ext h h') : own_Arf Z h' a ty n f := by obtain ⟨c, A, r⟩ := F; exact ⟨c, A.ext E, r⟩
theorem own_Arf.other (F : own_Arf Z h b ty n f) (W : Wr h h' a sl v) (q : b ≠ a) : own_Arf Z h' b ty n f := by obtain ⟨c, A, r⟩ := F; exact ⟨c, A.other W q, r⟩
theorem own_Arf.keep (F : own_Arf Z h a ty n f) (K : Keep h h' ws) (q : a ∉ ws) : own_Arf Z h' a ty n f := by obtain ⟨c, A, r⟩ := F; exact ⟨c, ⟨K.2.1 a c A.1 q, A.2⟩, r⟩
theorem own_Arf.new (A : Arr Z h a (newA k ty z) ty) (q : ¬ z < 0) : own_Arf Z h a ty z (fun _ => defaultValue ty) := ⟨_, A, sz_new _ _ _, q, fun i hi => by
  rw [sz_new] at hi
  simp [newA, hi]⟩
theorem own_Arf.set (F : own_Arf Z h a ty n f) (W : Wr h h' a sl v) : own_Arf Z h' a ty n (fun i => if i = sl then v else f i) := by
  obtain ⟨c, A, S, N, H⟩ := F
  have hsl : sl < c.slots.size := by
    obtain ⟨c2, e1, -, e3, -⟩ := W
    cases A.1.symm.trans e1
    exact e3
  refine ⟨_, A.same W, by rw [sz_set]; exact S, N, fun i hi => ?_⟩
  rw [sz_set] at hi
  by_cases e : i = sl
  · subst e
    simp [Cell.setSlot, hi]
  · simp only [Cell.setSlot, if_neg e]
    rw [Array.getElem?_setIfInBounds_ne (Ne.symm e)]
    exact H i hi
theorem own_Arf.congr (F : own_Arf Z h a ty n f) (q : ∀ i, i < n.toNatClampNeg → f i = g i) : own_Arf Z h a ty n g := by
  obtain ⟨c, A, S, N, H⟩ := F
  exact ⟨c, A, S, N, fun i hi => by rw [← q i (by rw [← S]; exact hi)]; exact H i hi⟩
theorem own_Arf.at (F : own_Arf Z h a ty n f) {j : Int32} (q : ¬ j < 0 ∧ j < n) : ∃ c : Cell, Arr Z h a c ty ∧ ¬ (j < 0 ∨ c.slots.size ≤ j.toNatClampNeg) ∧ c.slots[j.toNatClampNeg]? = some (f j.toNatClampNeg) := by
  obtain ⟨c, A, S, N, H⟩ := F
  have hin := inb_of S q
  exact ⟨c, A, hin, H _ (Nat.lt_of_not_le fun y => hin (Or.inr y))⟩
theorem own_Arf.nn (F : own_Arf Z h a ty n f) : ¬ n < 0 := by obtain ⟨c, A, S, N, H⟩ := F; exact N
/-- an array of objects of the class C -/
def own_Ovr (Z : State) (h : Heap) (a : Addr) (C : String) : Prop := ∃ (c : Cell) (ty : FieldType), Arr Z h a c ty ∧ Ovr Z c.cls C
theorem own_Ovr.wr {C : String} (W : Wr h h' b sl v) (F : own_Ovr Z h a C) : own_Ovr Z h' a C := by
  obtain ⟨c, ty, A, O⟩ := F
  by_cases e : a = b
  · subst e; exact ⟨_, ty, A.same W, O⟩
  · exact ⟨c, ty, A.other W e, O⟩
theorem own_Ovr.ext {C : String} (F : own_Ovr Z h a C) (E : Ext h h') : own_Ovr Z h' a C := by obtain ⟨c, ty, A, O⟩ := F; exact ⟨c, ty, A.ext E, O⟩
theorem own_Ovr.sto {C : String} {y : Addr} (F : own_Ovr Z h a C) (I : Exa Z h y C) : Sto Z h a (.ref y) := by obtain ⟨c, ty, A, O⟩ := F; exact Sto.of A O (Ins.self I)
theorem own_selp {s : State} {a0 args : Array Value} {y : MethodName} {n : Nat} (hZ : Z.Warmed39 s.vm) (wi : (Cond.instantiable y.cls n).before a0 Z = true) (wn : (Cond.instanceMethod y).before a0 Z = true) (wp : (Cond.privateMethod y).before a0 Z = true) (hy : y.cls ≠ "java/lang/invoke/MethodHandle" ∧ y.cls ≠ "java/lang/invoke/VarHandle") : (Cond.selects y.cls y y).before args s = true := by
  obtain ⟨c2, k2, i1, i2, -, i4, -⟩ := Cond.instantiable_spec (mvT hZ wi : (Cond.instantiable y.cls n).before args s = true)
  simp only [Bool.or_eq_false_iff] at i4
  exact selects_self_of_private i1 i2 i4.1 (Cond.privateMethod_at (mvP hZ wp (args := args))) (mvT hZ wn) hy
theorem own_sta_keep {C n d : String} {w : Value} (F : Sta Z h C n d w) (K : Keep h h' []) : Sta Z h' C n d w := by
  obtain ⟨cf, i, k, f, st, cell, h1, h2, h3, h4, h5, h6⟩ := F
  exact ⟨cf, i, k, f, st, cell, h1, h2, h3, h4, K.2.1 _ _ h5 nin0, h6⟩
theorem own_ofNat_int {m : Nat} (h : m < 2 ^ 31) : (Int32.ofNat m).toInt = m := Int32.toInt_ofNat_of_lt h
theorem own_tn {m : Nat} (h : m < 2 ^ 31) : (Int32.ofNat m).toNatClampNeg = m := by
  show (Int32.ofNat m).toInt.toNat = m
  rw [own_ofNat_int h]; omega
theorem own_nn {m : Nat} (h : m < 2 ^ 31) : ¬ Int32.ofNat m < 0 := by
  rw [Int32.lt_iff_toInt_lt, own_ofNat_int h]; show ¬ (m : Int) < 0; omega
theorem own_ltN {i m : Nat} (h : i < m) (hm : m < 2 ^ 31) : Int32.ofNat i < Int32.ofNat m := by
  rw [Int32.lt_iff_toInt_lt, own_ofNat_int hm, own_ofNat_int (by omega)]; omega
theorem own_in {i m : Nat} (h : i < m) (hm : m < 2 ^ 31) : ¬ Int32.ofNat i < 0 ∧ Int32.ofNat i < Int32.ofNat m := ⟨own_nn (by omega), own_ltN h hm⟩
theorem own_injN {i m : Nat} (hi : i < 2 ^ 31) (hm : m < 2 ^ 31) (e : Int32.ofNat i = Int32.ofNat m) : i = m := by
  have := congrArg Int32.toInt e
  rw [own_ofNat_int hi, own_ofNat_int hm] at this; omega
theorem own_Arf.arv (F : own_Arf Z h a ty n f) (hf : ∀ i, i < n.toNatClampNeg → fits ty (f i) = true) (d : Value) : ∃ k, Arv Z h a k ty n ((List.range n.toNatClampNeg).map f) d := by
  obtain ⟨c, A, S, N, H⟩ := F
  have hg : ∀ i, i < n.toNatClampNeg → ((List.range n.toNatClampNeg).map f).getD i d = f i := fun i hi => by
    simp [List.getD, hi]
  refine ⟨c.cls, c, A, rfl, S, N, fun i hi => ?_, fun i hi => ?_⟩
  · rw [hg i (by rw [← S]; exact hi)]; exact H i hi
  · rw [hg i (by rw [← S]; exact hi)]; exact hf i (by rw [← S]; exact hi)
theorem own_Arf.of {vs : List Value} {d : Value} (F : Arv Z h a k ty n vs d) : own_Arf Z h a ty n (fun i => vs.getD i d) := by
  obtain ⟨c, A, -, S, N, H, -⟩ := F
  exact ⟨c, A, S, N, H⟩
end Arf
end Jvm.RoadKit
namespace Jvm.Pilot.@@N@@
open Jvm Jvm.ClassFile Sem Op Lib Jvm.Free Jvm.Stand Jvm.LawKit Jvm.RoadKit Bundle Jvm.Pilot.@@N@@.Jvm.D
theorem own_m2 (s : Nat) : (2 : Int32) * Int32.ofNat s = Int32.ofNat (2 * s) := by rw [Int32.ofNat_mul]; rfl
theorem own_a1 (s : Nat) : Int32.ofNat s + (1 : Int32) = Int32.ofNat (s + 1) := by rw [Int32.ofNat_add]; rfl
def own_max (a b : Int32) : Int32 := if a < b then b else a
def own_min (a b : Int32) : Int32 := if b < a then b else a
theorem own_maxN {mz : Nat} (hm : mz < 2 ^ 30) : own_max (2 : Int32) (Int32.ofNat (2 * mz)) = Int32.ofNat (if mz = 0 then 2 else 2 * mz) := by
  have h2 : ((2 : Int32) < Int32.ofNat (2 * mz)) ↔ 2 < 2 * mz := by
    rw [Int32.lt_iff_toInt_lt, own_ofNat_int (by omega)]; show (2 : Int) < _ ↔ _; omega
  unfold own_max
  by_cases h0 : mz = 0
  · subst h0; rfl
  · rw [if_neg h0]
    by_cases h1 : mz = 1
    · subst h1; rfl
    · rw [if_pos (h2.mpr (by omega))]
theorem own_minN {mz k : Nat} (hm : mz < k) (hk : k < 2 ^ 31) : own_min (Int32.ofNat mz) (Int32.ofNat k) = Int32.ofNat mz := by
  unfold own_min
  rw [if_neg]
  rw [Int32.lt_iff_toInt_lt, own_ofNat_int hk, own_ofNat_int (by omega)]; omega
theorem own_small {w : Int32} {N : Nat} (h0 : 0 ≤ w.toInt) (h1 : w.toInt < N) : ∃ n : Fin N, w = Int32.ofNat n.1 := by
  refine ⟨⟨w.toInt.toNat, by omega⟩, ?_⟩
  apply Int32.toInt_inj.mp
  have : w.toInt < 2147483648 := w.toInt_lt
  rw [Int32.toInt_ofNat_of_lt (by show w.toInt.toNat < 2 ^ 31; omega)]
  show w.toInt = ((w.toInt.toNat : Nat) : Int)
  omega
theorem own_cap (x : Int32) : ∃ cap : Nat, cap ≤ 3 ∧ x &&& (3 : Int32) = Int32.ofNat cap := by
  have h := c_mask x 3 2 (by decide) (by decide)
  obtain ⟨n, e⟩ := own_small (w := x &&& 3) (N := 4) (by omega) (by omega)
  exact ⟨n.1, by omega, e⟩
theorem own_get {mz : Nat} {f : Nat → Value} {i : Nat} (hi : i < mz) (hm : mz < 2 ^ 31) : ((List.range (Int32.ofNat mz).toNatClampNeg).map f).getD i (.int 0) = f i := by
  rw [own_tn hm]; simp [List.getD, hi]
theorem own_cnt (x : Int32) : (((x.toUInt32 >>> ((2 : Int32) &&& 31).toUInt32).toInt32) &&& (7 : Int32)) % (5 : Int32) = 0 ∨ (((x.toUInt32 >>> ((2 : Int32) &&& 31).toUInt32).toInt32) &&& (7 : Int32)) % (5 : Int32) = 1 ∨ (((x.toUInt32 >>> ((2 : Int32) &&& 31).toUInt32).toInt32) &&& (7 : Int32)) % (5 : Int32) = 2 ∨ (((x.toUInt32 >>> ((2 : Int32) &&& 31).toUInt32).toInt32) &&& (7 : Int32)) % (5 : Int32) = 3 ∨ (((x.toUInt32 >>> ((2 : Int32) &&& 31).toUInt32).toInt32) &&& (7 : Int32)) % (5 : Int32) = 4 := by
  have h := c_mask ((x.toUInt32 >>> ((2 : Int32) &&& 31).toUInt32).toInt32) 7 3 (by decide) (by decide)
  have h2 := (c_irem (((x.toUInt32 >>> ((2 : Int32) &&& 31).toUInt32).toInt32) &&& 7) 5 5 (by decide)).1 (by omega)
  obtain ⟨n, e⟩ := own_small (w := (((x.toUInt32 >>> ((2 : Int32) &&& 31).toUInt32).toInt32) &&& (7 : Int32)) % (5 : Int32)) (N := 5) (by omega) (by omega)
  rw [e]; clear e h h2; revert n; decide
theorem d5_0 : decode jdk_29_method_65_code 0 = .ok (.iload_n 0, 1) := by decide +kernel
theorem d5_1 : decode jdk_29_method_65_code 1 = .ok (.iload_n 1, 1) := by decide +kernel
theorem d5_2 : decode jdk_29_method_65_code 2 = .ok (.if_icmp .lt 7, 3) := by decide +kernel
theorem d5_5 : decode jdk_29_method_65_code 5 = .ok (.iload_n 0, 1) := by decide +kernel
theorem d5_6 : decode jdk_29_method_65_code 6 = .ok (.goto 4, 3) := by decide +kernel
theorem d5_9 : decode jdk_29_method_65_code 9 = .ok (.iload_n 1, 1) := by decide +kernel
theorem d5_10 : decode jdk_29_method_65_code 10 = .ok (.ireturn, 1) := by decide +kernel
theorem ef_rmMax (m : MethodId) (x0 : Int32) (x1 : Int32) : entryFrame m #[(.int x0), (.int x1)] 2 = mkF m 0 #[.val (.int x0), .val (.int x1)] [] := by first | (simp [entryFrame, mkF, argsToLocals, Value.category]; done) | rfl
def Q_rmMax (Z : State) (i0 : Int32) (i1 : Int32) (h0 : Heap) (n0 : Nat) (v : Option Value) (h : Heap) (L : List Loc) : Prop := v = some (.int (own_max i0 i1)) ∧ Fr n0 L ∧ h = h0
set_option maxRecDepth 65536 in
set_option maxHeartbeats 40000000 in
theorem rmMax (l : Launch) (Z : State) (a0 : Array Value) (hw : ∀ d ∈ tables_1, d.before a0 Z = true) (ws : List Jvm.Cond) (i0 : Int32) (i1 : Int32) (h0 : Heap) (n0 : Nat) (Z0 : n0 ≤ h0.size)  :
    MetFree l (⟨"java/lang/Math", "max", "(II)I"⟩ : MethodName) (head1 (Jvm.Cond.code (⟨"java/lang/Math", "max", "(II)I"⟩ : MethodName) jdk_29_method_65_code 2 (some .int) :: ws) ({ frames := 0, cells := 0, slots := 0, locals := 0 } : Room)) (fun a U => a = #[(.int i0), (.int i1)] ∧ Z.Warmed39 U.vm ∧ U.heap = h0) (fun _ _ _ _ _ => True) (fun _ U o U' => ∃ v L, o = .returned v ∧ Q_rmMax Z i0 i1 h0 n0 v U'.heap L ∧ FrameEnd U o U' L ({ frames := 0, cells := 0, slots := 0, locals := 0 } : Room).cells ({ frames := 0, cells := 0, slots := 0, locals := 0 } : Room).slots) := by
  refine MetFree.of_bodySF (Jvm.Free.JP.mathPlain rfl (by decide +kernel)) hisR ?_
  intro p e s m args below meth c s₁ Bd hml0 hP hK
  obtain ⟨rfl, hZ, hh⟩ := hP
  have hx := Bd.exec
  have hby := Bd.bytes
  have hml : c.maxLocals = 2 := hml0
  have hown : s.vm.findClass "java/lang/Math" = some m.cls := findClass_of_methodNamed Bd.named
  have hnm := (name_of_methodNamed Bd.named Bd.method).1
  have X0 : Stand p l e ({ frames := 0, cells := 0, slots := 0, locals := 0 } : Room) s m #[(.int i0), (.int i1)] below meth c s₁ [] 0 0 := Stand.of_body Bd
  have e0 : s₁.heap = h0 := by rw [← hh, Bd.state]; rfl
  show own_Go p e below (s₁.setTop (entryFrame m #[(.int i0), (.int i1)] 2)) (fun t o => ∃ v L, o = .returned v ∧ Q_rmMax Z i0 i1 h0 n0 v t.heap L ∧ FrameEnd s o t L ({ frames := 0, cells := 0, slots := 0, locals := 0 } : Room).cells ({ frames := 0, cells := 0, slots := 0, locals := 0 } : Room).slots)
  refine own_by (B := s₁.setTop (mkF m 0 #[.val (.int i0), .val (.int i1)] [])) (fun t k => castTop (ef_rmMax m i0 i1) k) ?_
  have Nf := Fr.nil n0
  have Zs := Z0
  refine own_by (B := s₁.setTop (mkF m 1 #[.val (.int i0), .val (.int i1)] [(.int i0)])) (fun t k => XS.iloadN X0.here hx rfl (hb hby d5_0) rfl k) ?_
  refine own_by (B := s₁.setTop (mkF m 2 #[.val (.int i0), .val (.int i1)] [(.int i1), (.int i0)])) (fun t k => XS.iloadN X0.here hx rfl (hb hby d5_1) rfl k) ?_
  by_cases hc2 : i0 < i1
  · refine own_by (B := s₁.setTop (mkF m 9 #[.val (.int i0), .val (.int i1)] [])) (fun t k => XS.icmpYes X0.here hx rfl (pc0 := 2) (pc' := 9) rfl (hb hby d5_2) rfl (tlt hc2).1 (by decide) (by decide) k) ?_
    refine own_by (B := s₁.setTop (mkF m 10 #[.val (.int i0), .val (.int i1)] [(.int i1)])) (fun t k => XS.iloadN X0.here hx rfl (hb hby d5_9) rfl k) ?_
    exact own_end X0 (v := some (.int i1)) (fun h => by rw [Bd.returns] at h; cases h) (BodyLoose.notSynchronized Bd) (Q := (Q_rmMax Z i0 i1 h0 n0)) (fun fs hr => retI X0 hx Bd.returns (hb hby d5_10) hr) (show (Q_rmMax Z i0 i1 h0 n0) _ s₁.heap _ from (by rw [e0]; exact ⟨congrArg (fun z => some (Value.int z)) (by simp [own_max, hc2]), Nf, rfl⟩)) (by decide) (by decide)
  · refine own_by (B := s₁.setTop (mkF m 5 #[.val (.int i0), .val (.int i1)] [])) (fun t k => XS.icmpNo X0.here hx rfl (hb hby d5_2) rfl (flt hc2).1 k) ?_
    refine own_by (B := s₁.setTop (mkF m 6 #[.val (.int i0), .val (.int i1)] [(.int i0)])) (fun t k => XS.iloadN X0.here hx rfl (hb hby d5_5) rfl k) ?_
    refine own_by (B := s₁.setTop (mkF m 10 #[.val (.int i0), .val (.int i1)] [(.int i0)])) (fun t k => XS.goto X0.here hx rfl (pc0 := 6) (pc' := 10) rfl (hb hby d5_6) (by decide) (by decide) k) ?_
    exact own_end X0 (v := some (.int i0)) (fun h => by rw [Bd.returns] at h; cases h) (BodyLoose.notSynchronized Bd) (Q := (Q_rmMax Z i0 i1 h0 n0)) (fun fs hr => retI X0 hx Bd.returns (hb hby d5_10) hr) (show (Q_rmMax Z i0 i1 h0 n0) _ s₁.heap _ from (by rw [e0]; exact ⟨congrArg (fun z => some (Value.int z)) (by simp [own_max, hc2]), Nf, rfl⟩)) (by decide) (by decide)
theorem d7_0 : decode jdk_29_method_69_code 0 = .ok (.iload_n 0, 1) := by decide +kernel
theorem d7_1 : decode jdk_29_method_69_code 1 = .ok (.iload_n 1, 1) := by decide +kernel
theorem d7_2 : decode jdk_29_method_69_code 2 = .ok (.if_icmp .gt 7, 3) := by decide +kernel
theorem d7_5 : decode jdk_29_method_69_code 5 = .ok (.iload_n 0, 1) := by decide +kernel
theorem d7_6 : decode jdk_29_method_69_code 6 = .ok (.goto 4, 3) := by decide +kernel
theorem d7_9 : decode jdk_29_method_69_code 9 = .ok (.iload_n 1, 1) := by decide +kernel
theorem d7_10 : decode jdk_29_method_69_code 10 = .ok (.ireturn, 1) := by decide +kernel
theorem ef_rmMin (m : MethodId) (x0 : Int32) (x1 : Int32) : entryFrame m #[(.int x0), (.int x1)] 2 = mkF m 0 #[.val (.int x0), .val (.int x1)] [] := by first | (simp [entryFrame, mkF, argsToLocals, Value.category]; done) | rfl
def Q_rmMin (Z : State) (i0 : Int32) (i1 : Int32) (h0 : Heap) (n0 : Nat) (v : Option Value) (h : Heap) (L : List Loc) : Prop := v = some (.int (own_min i0 i1)) ∧ Fr n0 L ∧ h = h0
set_option maxRecDepth 65536 in
set_option maxHeartbeats 40000000 in
theorem rmMin (l : Launch) (Z : State) (a0 : Array Value) (hw : ∀ d ∈ tables_1, d.before a0 Z = true) (ws : List Jvm.Cond) (i0 : Int32) (i1 : Int32) (h0 : Heap) (n0 : Nat) (Z0 : n0 ≤ h0.size)  :
    MetFree l (⟨"java/lang/Math", "min", "(II)I"⟩ : MethodName) (head1 (Jvm.Cond.code (⟨"java/lang/Math", "min", "(II)I"⟩ : MethodName) jdk_29_method_69_code 2 (some .int) :: ws) ({ frames := 0, cells := 0, slots := 0, locals := 0 } : Room)) (fun a U => a = #[(.int i0), (.int i1)] ∧ Z.Warmed39 U.vm ∧ U.heap = h0) (fun _ _ _ _ _ => True) (fun _ U o U' => ∃ v L, o = .returned v ∧ Q_rmMin Z i0 i1 h0 n0 v U'.heap L ∧ FrameEnd U o U' L ({ frames := 0, cells := 0, slots := 0, locals := 0 } : Room).cells ({ frames := 0, cells := 0, slots := 0, locals := 0 } : Room).slots) := by
  refine MetFree.of_bodySF (Jvm.Free.JP.mathPlain rfl (by decide +kernel)) hisR ?_
  intro p e s m args below meth c s₁ Bd hml0 hP hK
  obtain ⟨rfl, hZ, hh⟩ := hP
  have hx := Bd.exec
  have hby := Bd.bytes
  have hml : c.maxLocals = 2 := hml0
  have hown : s.vm.findClass "java/lang/Math" = some m.cls := findClass_of_methodNamed Bd.named
  have hnm := (name_of_methodNamed Bd.named Bd.method).1
  have X0 : Stand p l e ({ frames := 0, cells := 0, slots := 0, locals := 0 } : Room) s m #[(.int i0), (.int i1)] below meth c s₁ [] 0 0 := Stand.of_body Bd
  have e0 : s₁.heap = h0 := by rw [← hh, Bd.state]; rfl
  show own_Go p e below (s₁.setTop (entryFrame m #[(.int i0), (.int i1)] 2)) (fun t o => ∃ v L, o = .returned v ∧ Q_rmMin Z i0 i1 h0 n0 v t.heap L ∧ FrameEnd s o t L ({ frames := 0, cells := 0, slots := 0, locals := 0 } : Room).cells ({ frames := 0, cells := 0, slots := 0, locals := 0 } : Room).slots)
  refine own_by (B := s₁.setTop (mkF m 0 #[.val (.int i0), .val (.int i1)] [])) (fun t k => castTop (ef_rmMin m i0 i1) k) ?_
  have Nf := Fr.nil n0
  have Zs := Z0
  refine own_by (B := s₁.setTop (mkF m 1 #[.val (.int i0), .val (.int i1)] [(.int i0)])) (fun t k => XS.iloadN X0.here hx rfl (hb hby d7_0) rfl k) ?_
  refine own_by (B := s₁.setTop (mkF m 2 #[.val (.int i0), .val (.int i1)] [(.int i1), (.int i0)])) (fun t k => XS.iloadN X0.here hx rfl (hb hby d7_1) rfl k) ?_
  by_cases hc2 : i1 < i0
  · refine own_by (B := s₁.setTop (mkF m 9 #[.val (.int i0), .val (.int i1)] [])) (fun t k => XS.icmpYes X0.here hx rfl (pc0 := 2) (pc' := 9) rfl (hb hby d7_2) rfl (tlt hc2).2.2.1 (by decide) (by decide) k) ?_
    refine own_by (B := s₁.setTop (mkF m 10 #[.val (.int i0), .val (.int i1)] [(.int i1)])) (fun t k => XS.iloadN X0.here hx rfl (hb hby d7_9) rfl k) ?_
    exact own_end X0 (v := some (.int i1)) (fun h => by rw [Bd.returns] at h; cases h) (BodyLoose.notSynchronized Bd) (Q := (Q_rmMin Z i0 i1 h0 n0)) (fun fs hr => retI X0 hx Bd.returns (hb hby d7_10) hr) (show (Q_rmMin Z i0 i1 h0 n0) _ s₁.heap _ from (by rw [e0]; exact ⟨congrArg (fun z => some (Value.int z)) (by simp [own_min, hc2]), Nf, rfl⟩)) (by decide) (by decide)
  · refine own_by (B := s₁.setTop (mkF m 5 #[.val (.int i0), .val (.int i1)] [])) (fun t k => XS.icmpNo X0.here hx rfl (hb hby d7_2) rfl (flt hc2).2.2.1 k) ?_
    refine own_by (B := s₁.setTop (mkF m 6 #[.val (.int i0), .val (.int i1)] [(.int i0)])) (fun t k => XS.iloadN X0.here hx rfl (hb hby d7_5) rfl k) ?_
    refine own_by (B := s₁.setTop (mkF m 10 #[.val (.int i0), .val (.int i1)] [(.int i0)])) (fun t k => XS.goto X0.here hx rfl (pc0 := 6) (pc' := 10) rfl (hb hby d7_6) (by decide) (by decide) k) ?_
    exact own_end X0 (v := some (.int i0)) (fun h => by rw [Bd.returns] at h; cases h) (BodyLoose.notSynchronized Bd) (Q := (Q_rmMin Z i0 i1 h0 n0)) (fun fs hr => retI X0 hx Bd.returns (hb hby d7_10) hr) (show (Q_rmMin Z i0 i1 h0 n0) _ s₁.heap _ from (by rw [e0]; exact ⟨congrArg (fun z => some (Value.int z)) (by simp [own_min, hc2]), Nf, rfl⟩)) (by decide) (by decide)
theorem own_vals {mz mk : Nat} {f : Nat → Value} (hlt : mz < mk) (hk : mk < 2 ^ 31) (i : Nat) : ((List.map (fun x => defaultValue FieldType.int) (List.range (Int32.ofNat mk).toNatClampNeg)).take (Int32.toNatClampNeg 0) ++ List.map (fun i => (List.map f (List.range (Int32.ofNat mz).toNatClampNeg)).getD ((Int32.toNatClampNeg 0) + i) (.int 0)) (List.range (Int32.ofNat mz).toNatClampNeg) ++ (List.map (fun x => defaultValue FieldType.int) (List.range (Int32.ofNat mk).toNatClampNeg)).drop ((Int32.toNatClampNeg 0) + (Int32.ofNat mz).toNatClampNeg)).getD i (.int 0) = if i < mz then f i else .int 0 := by
  rw [own_tn (show mz < 2 ^ 31 by omega), own_tn hk, show Int32.toNatClampNeg 0 = 0 from rfl]
  simp only [List.take_zero, List.nil_append, Nat.zero_add]
  by_cases h : i < mz
  · rw [if_pos h]; simp [List.getD, List.getElem?_append, h]
  · rw [if_neg h]
    have : (Value.int 0) = defaultValue FieldType.int := rfl
    simp only [List.getD, List.getElem?_append, List.length_map, List.length_range, h, if_false, List.getElem?_drop, List.getElem?_map]
    by_cases h2 : i < mk
    · rw [List.getElem?_range (by omega)]; rfl
    · rw [List.getElem?_eq_none (by simp; omega)]; rfl
theorem own_pd0 : parseMethodDescriptor "(II)I" = some ⟨[.int, .int], some .int⟩ := by decide +kernel
theorem d6_0 : decode jdk_65_method_123_code 0 = .ok (.iload_n 1, 1) := by decide +kernel
theorem d6_1 : decode jdk_65_method_123_code 1 = .ok (.aload_n 0, 1) := by decide +kernel
theorem d6_2 : decode jdk_65_method_123_code 2 = .ok (.arraylength, 1) := by decide +kernel
theorem d6_3 : decode jdk_65_method_123_code 3 = .ok (.if_icmp .ne 11, 3) := by decide +kernel
theorem d6_14 : decode jdk_65_method_123_code 14 = .ok (.iload_n 1, 1) := by decide +kernel
theorem d6_15 : decode jdk_65_method_123_code 15 = .ok (.newarray .int, 2) := by decide +kernel
theorem d6_17 : decode jdk_65_method_123_code 17 = .ok (.astore_n 2, 1) := by decide +kernel
theorem d6_18 : decode jdk_65_method_123_code 18 = .ok (.aload_n 0, 1) := by decide +kernel
theorem d6_19 : decode jdk_65_method_123_code 19 = .ok (.iconst 0, 1) := by decide +kernel
theorem d6_20 : decode jdk_65_method_123_code 20 = .ok (.aload_n 2, 1) := by decide +kernel
theorem d6_21 : decode jdk_65_method_123_code 21 = .ok (.iconst 0, 1) := by decide +kernel
theorem d6_22 : decode jdk_65_method_123_code 22 = .ok (.aload_n 0, 1) := by decide +kernel
theorem d6_23 : decode jdk_65_method_123_code 23 = .ok (.arraylength, 1) := by decide +kernel
theorem d6_24 : decode jdk_65_method_123_code 24 = .ok (.iload_n 1, 1) := by decide +kernel
theorem d6_25 : decode jdk_65_method_123_code 25 = .ok (.invokestatic 304, 3) := by decide +kernel
theorem d6_28 : decode jdk_65_method_123_code 28 = .ok (.invokestatic 150, 3) := by decide +kernel
theorem d6_31 : decode jdk_65_method_123_code 31 = .ok (.aload_n 2, 1) := by decide +kernel
theorem d6_32 : decode jdk_65_method_123_code 32 = .ok (.areturn, 1) := by decide +kernel
theorem own_pn0 : plainName "java/util/Arrays" = true := by first | (simp [plainName, overriddenIn]; done) | decide +kernel
theorem ef_rmC (m : MethodId) (x0 : Addr) (x1 : Int32) : entryFrame m #[(.ref x0), (.int x1)] 3 = mkF m 0 #[.val (.ref x0), .val (.int x1), .unset] [] := by first | (simp [entryFrame, mkF, argsToLocals, Value.category]; done) | rfl
def Q_rmC (Z : State) (r0 : Addr) (mz mk : Nat) (f : Nat → Value) (h0 : Heap) (n0 : Nat) (v : Option Value) (h : Heap) (L : List Loc) : Prop := v = some (.ref h0.size) ∧ Fr n0 L ∧ Keep h0 h [] ∧ ∃ g, own_Arf Z h h0.size .int (Int32.ofNat mk) g ∧ (∀ i, i < mz → g i = f i) ∧ (∀ i, i < mk → ∃ x, g i = .int x)
set_option maxRecDepth 65536 in
set_option maxHeartbeats 40000000 in
theorem rmC (l : Launch) (Z : State) (a0 : Array Value) (hw : ∀ d ∈ tables_1, d.before a0 Z = true) (ws : List Jvm.Cond) (r0 : Addr) (mz mk : Nat) (f : Nat → Value) (h0 : Heap) (n0 : Nat) (Z0 : n0 ≤ h0.size) (V_r0 : own_Arf Z h0 r0 .int (Int32.ofNat mz) f) (hint : ∀ i, i < mz → ∃ x, f i = .int x) (hlt : mz < mk) (hk12 : mk ≤ 12) :
    MetFree l (⟨"java/util/Arrays", "copyOf", "([II)[I"⟩ : MethodName) (head1 (Jvm.Cond.code (⟨"java/util/Arrays", "copyOf", "([II)[I"⟩ : MethodName) jdk_65_method_123_code 3 (some (.array .int)) :: ws) ({ frames := 1, cells := 1, slots := 12, locals := 18 } : Room)) (fun a U => a = #[(.ref r0), (.int (Int32.ofNat mk))] ∧ Z.Warmed39 U.vm ∧ U.heap = h0) (fun _ _ _ _ _ => True) (fun _ U o U' => ∃ v L, o = .returned v ∧ Q_rmC Z r0 mz mk f h0 n0 v U'.heap L ∧ FrameEnd U o U' L ({ frames := 1, cells := 1, slots := 12, locals := 18 } : Room).cells ({ frames := 1, cells := 1, slots := 12, locals := 18 } : Room).slots) := by
  refine MetFree.of_bodySF (plainFor_of_name own_pn0) hisR ?_
  intro p e s m args below meth c s₁ Bd hml0 hP hK
  obtain ⟨rfl, hZ, hh⟩ := hP
  have hx := Bd.exec
  have hby := Bd.bytes
  have hml : c.maxLocals = 3 := hml0
  have hown : s.vm.findClass "java/util/Arrays" = some m.cls := findClass_of_methodNamed Bd.named
  have hnm := (name_of_methodNamed Bd.named Bd.method).1
  have X0 : Stand p l e ({ frames := 1, cells := 1, slots := 12, locals := 18 } : Room) s m #[(.ref r0), (.int (Int32.ofNat mk))] below meth c s₁ [] 0 0 := Stand.of_body Bd
  have e0 : s₁.heap = h0 := by rw [← hh, Bd.state]; rfl
  show own_Go p e below (s₁.setTop (entryFrame m #[(.ref r0), (.int (Int32.ofNat mk))] 3)) (fun t o => ∃ v L, o = .returned v ∧ Q_rmC Z r0 mz mk f h0 n0 v t.heap L ∧ FrameEnd s o t L ({ frames := 1, cells := 1, slots := 12, locals := 18 } : Room).cells ({ frames := 1, cells := 1, slots := 12, locals := 18 } : Room).slots)
  refine own_by (B := s₁.setTop (mkF m 0 #[.val (.ref r0), .val (.int (Int32.ofNat mk)), .unset] [])) (fun t k => castTop (ef_rmC m r0 (Int32.ofNat mk)) k) ?_
  have Nf := Fr.nil n0
  have Zs := Z0
  have Kp := Keep.refl h0 []
  refine own_by (B := s₁.setTop (mkF m 1 #[.val (.ref r0), .val (.int (Int32.ofNat mk)), .unset] [(.int (Int32.ofNat mk))])) (fun t k => XS.iloadN X0.here hx rfl (hb hby d6_0) rfl k) ?_
  refine own_by (B := s₁.setTop (mkF m 2 #[.val (.ref r0), .val (.int (Int32.ofNat mk)), .unset] [(.ref r0), (.int (Int32.ofNat mk))])) (fun t k => XS.aloadN X0.here hx rfl (hb hby d6_1) rfl rfl k) ?_
  obtain ⟨cl1, Ar1, Sz1, Ng1, -⟩ := id V_r0
  refine own_by (B := s₁.setTop (mkF m 3 #[.val (.ref r0), .val (.int (Int32.ofNat mk)), .unset] [(.int (Int32.ofNat mz)), (.int (Int32.ofNat mk))])) (fun t k => X0.arraylength hx (by rw [e0]; exact Ar1.1) (State.isArrayOf_alike hZ.alike Ar1.2.1) (g := (mkF m 2 #[.val (.ref r0), .val (.int (Int32.ofNat mk)), .unset] [(.ref r0), (.int (Int32.ofNat mk))])) rfl rfl (hb hby d6_2) _ (by rw [len_of Sz1 Ng1]; exact k)) ?_
  refine own_by (B := s₁.setTop (mkF m 14 #[.val (.ref r0), .val (.int (Int32.ofNat mk)), .unset] [])) (fun t k => XS.icmpYes X0.here hx rfl (pc0 := 3) (pc' := 14) rfl (hb hby d6_3) rfl (feq (fun q => absurd (own_injN (by omega) (by omega) q) (by omega))).2 (by decide) (by decide) k) ?_
  refine own_by (B := s₁.setTop (mkF m 15 #[.val (.ref r0), .val (.int (Int32.ofNat mk)), .unset] [(.int (Int32.ofNat mk))])) (fun t k => XS.iloadN X0.here hx rfl (hb hby d6_14) rfl k) ?_
  obtain ⟨T2, h2, k2, X2, e2, E2, A2, st2⟩ := newP X0 hx hZ (hw _ (List.mem_of_getElem? (i := 10) rfl)) e0 (g := (mkF m 15 #[.val (.ref r0), .val (.int (Int32.ofNat mk)), .unset] [(.int (Int32.ofNat mk))])) rfl (hb hby d6_15) rfl (own_nn (by omega)) (cap := 12) (by rw [own_tn (by omega)]; exact hk12) (by decide) (by decide) (by decide)
  obtain ⟨b2, gq2⟩ : ∃ z, z = h0.size := ⟨_, rfl⟩
  rw [← gq2] at A2 st2
  have ne_r0_b2 : r0 ≠ b2 := Nat.ne_of_lt (Nat.lt_of_lt_of_le V_r0.lt (Nat.le_of_eq gq2.symm))
  have g_b2 : n0 ≤ b2 := Nat.le_trans Zs (Nat.le_of_eq gq2.symm)
  have sz_b2 : h0.size ≤ b2 := Nat.le_trans Kp.1 (Nat.le_of_eq gq2.symm)
  have V_r0 := V_r0.ext E2
  have Zs := Nat.le_trans Zs E2.1
  have Kp := Kp.ext E2
  have V_b2 := own_Arf.new A2 (own_nn (by omega))
  refine own_by (B := T2.setTop (mkF m 17 #[.val (.ref r0), .val (.int (Int32.ofNat mk)), .unset] [(.ref b2)])) st2 ?_
  refine own_by (B := T2.setTop (mkF m 18 #[.val (.ref r0), .val (.int (Int32.ofNat mk)), .val (.ref b2)] [])) (fun t k => XS.astoreN X2.here hx rfl (hb hby d6_17) rfl rfl (l' := #[.val (.ref r0), .val (.int (Int32.ofNat mk)), .val (.ref b2)]) rfl k) ?_
  refine own_by (B := T2.setTop (mkF m 19 #[.val (.ref r0), .val (.int (Int32.ofNat mk)), .val (.ref b2)] [(.ref r0)])) (fun t k => XS.aloadN X2.here hx rfl (hb hby d6_18) rfl rfl k) ?_
  refine own_by (B := T2.setTop (mkF m 20 #[.val (.ref r0), .val (.int (Int32.ofNat mk)), .val (.ref b2)] [(.int (0 : Int32)), (.ref r0)])) (fun t k => XS.iconst X2.here hx rfl (hb hby d6_19) k) ?_
  refine own_by (B := T2.setTop (mkF m 21 #[.val (.ref r0), .val (.int (Int32.ofNat mk)), .val (.ref b2)] [(.ref b2), (.int (0 : Int32)), (.ref r0)])) (fun t k => XS.aloadN X2.here hx rfl (hb hby d6_20) rfl rfl k) ?_
  refine own_by (B := T2.setTop (mkF m 22 #[.val (.ref r0), .val (.int (Int32.ofNat mk)), .val (.ref b2)] [(.int (0 : Int32)), (.ref b2), (.int (0 : Int32)), (.ref r0)])) (fun t k => XS.iconst X2.here hx rfl (hb hby d6_21) k) ?_
  refine own_by (B := T2.setTop (mkF m 23 #[.val (.ref r0), .val (.int (Int32.ofNat mk)), .val (.ref b2)] [(.ref r0), (.int (0 : Int32)), (.ref b2), (.int (0 : Int32)), (.ref r0)])) (fun t k => XS.aloadN X2.here hx rfl (hb hby d6_22) rfl rfl k) ?_
  obtain ⟨cl3, Ar3, Sz3, Ng3, -⟩ := id V_r0
  refine own_by (B := T2.setTop (mkF m 24 #[.val (.ref r0), .val (.int (Int32.ofNat mk)), .val (.ref b2)] [(.int (Int32.ofNat mz)), (.int (0 : Int32)), (.ref b2), (.int (0 : Int32)), (.ref r0)])) (fun t k => X2.arraylength hx (by rw [e2]; exact Ar3.1) (State.isArrayOf_alike hZ.alike Ar3.2.1) (g := (mkF m 23 #[.val (.ref r0), .val (.int (Int32.ofNat mk)), .val (.ref b2)] [(.ref r0), (.int (0 : Int32)), (.ref b2), (.int (0 : Int32)), (.ref r0)])) rfl rfl (hb hby d6_23) _ (by rw [len_of Sz3 Ng3]; exact k)) ?_
  refine own_by (B := T2.setTop (mkF m 25 #[.val (.ref r0), .val (.int (Int32.ofNat mk)), .val (.ref b2)] [(.int (Int32.ofNat mk)), (.int (Int32.ofNat mz)), (.int (0 : Int32)), (.ref b2), (.int (0 : Int32)), (.ref r0)])) (fun t k => XS.iloadN X2.here hx rfl (hb hby d6_24) rfl k) ?_
  obtain ⟨_, _, ⟨T4, L4, k4, n4⟩, -, X4, ⟨Lc4, hQ4, l4, y4, z4⟩, st4⟩ := Jvm.LawKit.callS X2 hx (y := (⟨"java/lang/Math", "min", "(II)I"⟩ : MethodName)) hown (mvT hZ (hw _ (List.mem_of_getElem? (i := 33) rfl))) (mvT hZ (hw _ (List.mem_of_getElem? (i := 34) rfl))) (mvT hZ (hw _ (List.mem_of_getElem? (i := 27) rfl))) (mvT hZ (hw _ (List.mem_of_getElem? (i := 35) rfl))) (by decide) (backOf (W := 4) (rmMin l Z a0 hw [] (Int32.ofNat mz) (Int32.ofNat mk) h2 n0 Zs) hZ (hw _ (List.mem_of_getElem? (i := 35) rfl)) (hw _ (List.mem_of_getElem? (i := 27) rfl)) (by decide) (by decide)) (g := (mkF m 25 #[.val (.ref r0), .val (.int (Int32.ofNat mk)), .val (.ref b2)] [(.int (Int32.ofNat mk)), (.int (Int32.ofNat mz)), (.int (0 : Int32)), (.ref b2), (.int (0 : Int32)), (.ref r0)])) rfl (by rw [hml]; rfl) (argsL := [(.int (Int32.ofNat mz)), (.int (Int32.ofNat mk))]) (rest := [(.int (0 : Int32)), (.ref b2), (.int (0 : Int32)), (.ref r0)]) (lenOf own_pd0 rfl) rfl (by show 2 * 0 + _ ≤ _; exact Nat.le_of_eq rfl) (hb hby d6_25) (fun _ _ => ⟨rfl, e2, (by decide : 1 + 0 ≤ _), (by decide : 12 + 0 ≤ _)⟩)
  dsimp only [Pt.U, Pt.locs, Pt.cells, Pt.slots] at X4 l4 y4 z4 st4 hQ4
  subst l4 y4 z4
  obtain ⟨rfl, Nq4, hp4⟩ := hQ4
  have Nf := Fr.app Nf Nq4
  have ec4 : T4.heap = h2 := hp4
  refine own_by (B := T4.setTop (mkF m 28 #[.val (.ref r0), .val (.int (Int32.ofNat mk)), .val (.ref b2)] [(.int (own_min (Int32.ofNat mz) (Int32.ofNat mk))), (.int (0 : Int32)), (.ref b2), (.int (0 : Int32)), (.ref r0)])) st4 ?_
  rw [show (own_min (Int32.ofNat mz) (Int32.ofNat mk)) = (Int32.ofNat mz) from own_minN hlt (by omega)]
  obtain ⟨ks, As⟩ := V_r0.arv (fun i hi => by obtain ⟨x, hx0⟩ := hint i (by rw [own_tn (by omega)] at hi; exact hi); rw [hx0]; rfl) (.int 0)
  obtain ⟨kd, Ad⟩ := V_b2.arv (fun i hi => rfl) (.int 0)
  have tm : (Int32.ofNat mz).toNatClampNeg = mz := own_tn (by omega)
  have tk : (Int32.ofNat mk).toNatClampNeg = mk := own_tn (by omega)
  obtain ⟨T5, h5, L5, X5, e5, Nf, Kx5, Vx5, st5⟩ := cpA X4 hx hZ hown (hw _ (List.mem_of_getElem? (i := 36) rfl)) (hw _ (List.mem_of_getElem? (i := 39) rfl)) (hw _ (List.mem_of_getElem? (i := 37) rfl)) (hw _ (List.mem_of_getElem? (i := 38) rfl)) ec4 As Ad (Or.inl ⟨rfl, rfl⟩) (sp := (0 : Int32)) (dp := (0 : Int32)) (nn := Int32.ofNat mz) (by decide) (by decide) (own_nn (by omega)) (by rw [tm]; show 0 + mz ≤ mz; omega) (by rw [tm, tk]; show 0 + mz ≤ mk; omega) rfl (by rw [tm]; simp only [List.length_map, List.length_range, tk]; show 0 + mz ≤ mk; omega) Nf g_b2 (g := (mkF m 28 #[.val (.ref r0), .val (.int (Int32.ofNat mk)), .val (.ref b2)] [(.int (Int32.ofNat mz)), (.int (0 : Int32)), (.ref b2), (.int (0 : Int32)), (.ref r0)])) rfl (by rw [hml]; rfl) rfl (hb hby d6_28) (by decide) (W := 0) (by show 2 * 0 + _ ≤ _; exact Nat.le_of_eq rfl) (by decide)
  have V_r0 := V_r0.keep Kx5 (ninS ne_r0_b2 nin0)
  have Zs := Nat.le_trans Zs Kx5.1
  have Kp := Kp.trans Kx5 (allS (Or.inr sz_b2) all0)
  have V_b2 := own_Arf.of Vx5
  refine own_by (B := T5.setTop (mkF m 31 #[.val (.ref r0), .val (.int (Int32.ofNat mk)), .val (.ref b2)] [])) st5 ?_
  refine own_by (B := T5.setTop (mkF m 32 #[.val (.ref r0), .val (.int (Int32.ofNat mk)), .val (.ref b2)] [(.ref b2)])) (fun t k => XS.aloadN X5.here hx rfl (hb hby d6_31) rfl rfl k) ?_
  have hv : ∀ i, ((List.map (fun x => defaultValue FieldType.int) (List.range (Int32.ofNat mk).toNatClampNeg)).take (Int32.toNatClampNeg 0) ++ List.map (fun i => (List.map f (List.range (Int32.ofNat mz).toNatClampNeg)).getD ((Int32.toNatClampNeg 0) + i) (.int 0)) (List.range (Int32.ofNat mz).toNatClampNeg) ++ (List.map (fun x => defaultValue FieldType.int) (List.range (Int32.ofNat mk).toNatClampNeg)).drop ((Int32.toNatClampNeg 0) + (Int32.ofNat mz).toNatClampNeg)).getD i (.int 0) = if i < mz then f i else .int 0 := own_vals hlt (by omega)
  refine own_end X5 (v := some (.ref b2)) (fun h => by rw [Bd.returns] at h; cases h) (BodyLoose.notSynchronized Bd) (Q := (Q_rmC Z r0 mz mk f h0 n0)) (fun fs hr => retOut X5 hx (t := (.array .int)) Bd.returns rfl (Or.inr (Or.inr (Or.inr (Or.inr ⟨rfl, rfl, rfl⟩)))) (hb hby d6_32) hr) (show (Q_rmC Z r0 mz mk f h0 n0) _ T5.heap _ from ?_) (by decide) (by decide)
  rw [e5]
  refine ⟨by rw [gq2], Nf, Kp, _, by rw [← gq2]; exact V_b2, fun i hi => ?_, fun i hi => ?_⟩
  · exact (hv i).trans (if_pos hi)
  · refine Exists.imp (fun x q => (hv i).trans q) ?_
    by_cases hi2 : i < mz
    · rw [if_pos hi2]; exact hint i hi2
    · rw [if_neg hi2]; exact ⟨0, rfl⟩
theorem d1_0 : decode prog_20_method_2_code 0 = .ok (.aload_n 0, 1) := by decide +kernel
theorem d1_1 : decode prog_20_method_2_code 1 = .ok (.invokespecial 7, 3) := by decide +kernel
theorem d1_4 : decode prog_20_method_2_code 4 = .ok (.aload_n 0, 1) := by decide +kernel
theorem d1_5 : decode prog_20_method_2_code 5 = .ok (.iconst 2, 1) := by decide +kernel
theorem d1_6 : decode prog_20_method_2_code 6 = .ok (.iload_n 1, 1) := by decide +kernel
theorem d1_7 : decode prog_20_method_2_code 7 = .ok (.imul, 1) := by decide +kernel
theorem d1_8 : decode prog_20_method_2_code 8 = .ok (.newarray .int, 2) := by decide +kernel
theorem d1_10 : decode prog_20_method_2_code 10 = .ok (.putfield 12, 3) := by decide +kernel
theorem d1_13 : decode prog_20_method_2_code 13 = .ok (.return_, 1) := by decide +kernel
theorem own_pn1 : plainName "com/example/surrogate/surrogate/index/Entries" = true := by first | (simp [plainName, overriddenIn]; done) | decide +kernel
theorem ef_rmI (m : MethodId) (x0 : Addr) (x1 : Int32) : entryFrame m #[(.ref x0), (.int x1)] 2 = mkF m 0 #[.val (.ref x0), .val (.int x1)] [] := by first | (simp [entryFrame, mkF, argsToLocals, Value.category]; done) | rfl
def Q_rmI (Z : State) (r0 : Addr) (cap : Nat) (h0 : Heap) (n0 : Nat) (v : Option Value) (h : Heap) (L : List Loc) : Prop := v = none ∧ Fr n0 L ∧ Keep h0 h [r0] ∧ Fld Z h r0 "com/example/surrogate/surrogate/index/Entries" "size" "I" (.int (0 : Int32)) ∧ ∃ b f, n0 ≤ b ∧ r0 ≠ b ∧ Fld Z h r0 "com/example/surrogate/surrogate/index/Entries" "entries" "[I" (.ref b) ∧ own_Arf Z h b .int (Int32.ofNat (2 * cap)) f ∧ ∀ i, f i = .int 0
set_option maxRecDepth 65536 in
set_option maxHeartbeats 40000000 in
theorem rmI (l : Launch) (Z : State) (a0 : Array Value) (hw : ∀ d ∈ tables_1, d.before a0 Z = true) (ws : List Jvm.Cond) (r0 : Addr) (cap : Nat) (h0 : Heap) (n0 : Nat) (Z0 : n0 ≤ h0.size) (E_r0 : Exa Z h0 r0 "com/example/surrogate/surrogate/index/Entries") (F_size_r0 : Fld Z h0 r0 "com/example/surrogate/surrogate/index/Entries" "size" "I" (.int (0 : Int32))) (F_entries_r0 : Fld Z h0 r0 "com/example/surrogate/surrogate/index/Entries" "entries" "[I" .null) (g_r0 : n0 ≤ r0) (hcap : cap ≤ 3) :
    MetFree l (⟨"com/example/surrogate/surrogate/index/Entries", "<init>", "(I)V"⟩ : MethodName) (head1 (Jvm.Cond.code (⟨"com/example/surrogate/surrogate/index/Entries", "<init>", "(I)V"⟩ : MethodName) prog_20_method_2_code 2 none :: ws) ({ frames := 1, cells := 1, slots := 6, locals := 12 } : Room)) (fun a U => a = #[(.ref r0), (.int (Int32.ofNat cap))] ∧ Z.Warmed39 U.vm ∧ U.heap = h0) (fun _ _ _ _ _ => True) (fun _ U o U' => ∃ v L, o = .returned v ∧ Q_rmI Z r0 cap h0 n0 v U'.heap L ∧ FrameEnd U o U' L ({ frames := 1, cells := 1, slots := 6, locals := 12 } : Room).cells ({ frames := 1, cells := 1, slots := 6, locals := 12 } : Room).slots) := by
  refine MetFree.of_bodySF (plainFor_of_name own_pn1) hisR ?_
  intro p e s m args below meth c s₁ Bd hml0 hP hK
  obtain ⟨rfl, hZ, hh⟩ := hP
  have hx := Bd.exec
  have hby := Bd.bytes
  have hml : c.maxLocals = 2 := hml0
  have hown : s.vm.findClass "com/example/surrogate/surrogate/index/Entries" = some m.cls := findClass_of_methodNamed Bd.named
  have hnm := (name_of_methodNamed Bd.named Bd.method).1
  have X0 : Stand p l e ({ frames := 1, cells := 1, slots := 6, locals := 12 } : Room) s m #[(.ref r0), (.int (Int32.ofNat cap))] below meth c s₁ [] 0 0 := Stand.of_body Bd
  have e0 : s₁.heap = h0 := by rw [← hh, Bd.state]; rfl
  show own_Go p e below (s₁.setTop (entryFrame m #[(.ref r0), (.int (Int32.ofNat cap))] 2)) (fun t o => ∃ v L, o = .returned v ∧ Q_rmI Z r0 cap h0 n0 v t.heap L ∧ FrameEnd s o t L ({ frames := 1, cells := 1, slots := 6, locals := 12 } : Room).cells ({ frames := 1, cells := 1, slots := 6, locals := 12 } : Room).slots)
  refine own_by (B := s₁.setTop (mkF m 0 #[.val (.ref r0), .val (.int (Int32.ofNat cap))] [])) (fun t k => castTop (ef_rmI m r0 (Int32.ofNat cap)) k) ?_
  have Nf := Fr.nil n0
  have Zs := Z0
  have Kp := Keep.refl h0 [r0]
  refine own_by (B := s₁.setTop (mkF m 1 #[.val (.ref r0), .val (.int (Int32.ofNat cap))] [(.ref r0)])) (fun t k => XS.aloadN X0.here hx rfl (hb hby d1_0) rfl rfl k) ?_
  obtain ⟨T1, X1, e1, st1⟩ := initO X0 hx hZ hown (hw _ (List.mem_of_getElem? (i := 7) rfl)) (hw _ (List.mem_of_getElem? (i := 8) rfl)) (hw _ (List.mem_of_getElem? (i := 9) rfl)) e0 (g := (mkF m 1 #[.val (.ref r0), .val (.int (Int32.ofNat cap))] [(.ref r0)])) rfl (by rw [hml]; rfl) rfl (hb hby d1_1) (by decide) (W := 0) (by show 2 * 0 + _ ≤ _; exact Nat.le_of_eq rfl) (by decide)
  refine own_by (B := T1.setTop (mkF m 4 #[.val (.ref r0), .val (.int (Int32.ofNat cap))] [])) st1 ?_
  refine own_by (B := T1.setTop (mkF m 5 #[.val (.ref r0), .val (.int (Int32.ofNat cap))] [(.ref r0)])) (fun t k => XS.aloadN X1.here hx rfl (hb hby d1_4) rfl rfl k) ?_
  refine own_by (B := T1.setTop (mkF m 6 #[.val (.ref r0), .val (.int (Int32.ofNat cap))] [(.int (2 : Int32)), (.ref r0)])) (fun t k => XS.iconst X1.here hx rfl (hb hby d1_5) k) ?_
  refine own_by (B := T1.setTop (mkF m 7 #[.val (.ref r0), .val (.int (Int32.ofNat cap))] [(.int (Int32.ofNat cap)), (.int (2 : Int32)), (.ref r0)])) (fun t k => XS.iloadN X1.here hx rfl (hb hby d1_6) rfl k) ?_
  refine own_by (B := T1.setTop (mkF m 8 #[.val (.ref r0), .val (.int (Int32.ofNat cap))] [(.int ((2 : Int32) * (Int32.ofNat cap))), (.ref r0)])) (fun t k => XS.imul X1.here hx rfl (hb hby d1_7) rfl k) ?_
  rw [show ((2 : Int32) * (Int32.ofNat cap)) = (Int32.ofNat (2 * cap)) from own_m2 cap]
  obtain ⟨T2, h2, k2, X2, e2, E2, A2, st2⟩ := newP X1 hx hZ (hw _ (List.mem_of_getElem? (i := 10) rfl)) e1 (g := (mkF m 8 #[.val (.ref r0), .val (.int (Int32.ofNat cap))] [(.int (Int32.ofNat (2 * cap))), (.ref r0)])) rfl (hb hby d1_8) rfl (own_nn (by omega)) (cap := 6) (by rw [own_tn (by omega)]; omega) (by decide) (by decide) (by decide)
  obtain ⟨b2, gq2⟩ : ∃ z, z = h0.size := ⟨_, rfl⟩
  rw [← gq2] at A2 st2
  have ne_r0_b2 : r0 ≠ b2 := Nat.ne_of_lt (Nat.lt_of_lt_of_le E_r0.lt (Nat.le_of_eq gq2.symm))
  have g_b2 : n0 ≤ b2 := Nat.le_trans Zs (Nat.le_of_eq gq2.symm)
  have sz_b2 : h0.size ≤ b2 := Nat.le_trans Kp.1 (Nat.le_of_eq gq2.symm)
  have E_r0 := E_r0.ext E2
  have F_size_r0 := F_size_r0.ext E2
  have F_entries_r0 := F_entries_r0.ext E2
  have Zs := Nat.le_trans Zs E2.1
  have Kp := Kp.ext E2
  have V_b2 := own_Arf.new A2 (own_nn (by omega))
  refine own_by (B := T2.setTop (mkF m 10 #[.val (.ref r0), .val (.int (Int32.ofNat cap))] [(.ref b2), (.ref r0)])) st2 ?_
  obtain ⟨T3, h3, X3, e3, W3, st3⟩ := putF X2 hx hZ hown (host := "") (Or.inl (hw _ (List.mem_of_getElem? (i := 11) rfl))) Via.refl e2 F_entries_r0 E_r0 (Or.inl (hw _ (List.mem_of_getElem? (i := 12) rfl))) (hw _ (List.mem_of_getElem? (i := 2) rfl)) (ty := (.array .int)) (by decide) rfl rfl (g := (mkF m 10 #[.val (.ref r0), .val (.int (Int32.ofNat cap))] [(.ref b2), (.ref r0)])) rfl rfl (hb hby d1_10)
  have E_r0 := E_r0.wr W3
  have F_size_r0 := F_size_r0.other W3 (Or.inr (slot_ne (Or.inl (hw _ (List.mem_of_getElem? (i := 19) rfl))) (Or.inl (hw _ (List.mem_of_getElem? (i := 12) rfl))) (by decide) (t := .int) (t' := (.array .int)) (by decide) (by decide)))
  have F_entries_r0 := F_entries_r0.same W3
  have V_b2 := V_b2.other W3 (Ne.symm ne_r0_b2)
  have Zs : n0 ≤ h3.size := by rw [W3.size]; exact Zs
  have Kp := Kp.wr W3 (Or.inl (List.mem_of_getElem? (i := 0) rfl))
  have Nf := Fr.snoc X3 Nf g_r0
  refine own_by (B := T3.setTop (mkF m 13 #[.val (.ref r0), .val (.int (Int32.ofNat cap))] [])) st3 ?_
  exact own_end X3 (v := none) (fun _ => rfl) (BodyLoose.notSynchronized Bd) (Q := (Q_rmI Z r0 cap h0 n0)) (fun fs hr => X3.returnOut hx Bd.returns (hb hby d1_13) hr) (show (Q_rmI Z r0 cap h0 n0) _ T3.heap _ from (by rw [e3]; exact ⟨rfl, Nf, Kp, F_size_r0, b2, _, g_b2, ne_r0_b2, F_entries_r0, V_b2, fun i => rfl⟩)) (by decide) (by decide)
theorem own_pd1 : parseMethodDescriptor "([II)[I" = some ⟨[(.array .int), .int], some (.array .int)⟩ := by decide +kernel
theorem d4_0 : decode prog_20_method_3_code 0 = .ok (.iconst 2, 1) := by decide +kernel
theorem d4_1 : decode prog_20_method_3_code 1 = .ok (.aload_n 0, 1) := by decide +kernel
theorem d4_2 : decode prog_20_method_3_code 2 = .ok (.getfield 16, 3) := by decide +kernel
theorem d4_5 : decode prog_20_method_3_code 5 = .ok (.imul, 1) := by decide +kernel
theorem d4_6 : decode prog_20_method_3_code 6 = .ok (.aload_n 0, 1) := by decide +kernel
theorem d4_7 : decode prog_20_method_3_code 7 = .ok (.getfield 12, 3) := by decide +kernel
theorem d4_10 : decode prog_20_method_3_code 10 = .ok (.arraylength, 1) := by decide +kernel
theorem d4_11 : decode prog_20_method_3_code 11 = .ok (.if_icmp .ne 25, 3) := by decide +kernel
theorem d4_14 : decode prog_20_method_3_code 14 = .ok (.aload_n 0, 1) := by decide +kernel
theorem d4_15 : decode prog_20_method_3_code 15 = .ok (.aload_n 0, 1) := by decide +kernel
theorem d4_16 : decode prog_20_method_3_code 16 = .ok (.getfield 12, 3) := by decide +kernel
theorem d4_19 : decode prog_20_method_3_code 19 = .ok (.iconst 2, 1) := by decide +kernel
theorem d4_20 : decode prog_20_method_3_code 20 = .ok (.iconst 2, 1) := by decide +kernel
theorem d4_21 : decode prog_20_method_3_code 21 = .ok (.aload_n 0, 1) := by decide +kernel
theorem d4_22 : decode prog_20_method_3_code 22 = .ok (.getfield 12, 3) := by decide +kernel
theorem d4_25 : decode prog_20_method_3_code 25 = .ok (.arraylength, 1) := by decide +kernel
theorem d4_26 : decode prog_20_method_3_code 26 = .ok (.imul, 1) := by decide +kernel
theorem d4_27 : decode prog_20_method_3_code 27 = .ok (.invokestatic 20, 3) := by decide +kernel
theorem d4_30 : decode prog_20_method_3_code 30 = .ok (.invokestatic 26, 3) := by decide +kernel
theorem d4_33 : decode prog_20_method_3_code 33 = .ok (.putfield 12, 3) := by decide +kernel
theorem d4_36 : decode prog_20_method_3_code 36 = .ok (.aload_n 0, 1) := by decide +kernel
theorem d4_37 : decode prog_20_method_3_code 37 = .ok (.getfield 12, 3) := by decide +kernel
theorem d4_40 : decode prog_20_method_3_code 40 = .ok (.iconst 2, 1) := by decide +kernel
theorem d4_41 : decode prog_20_method_3_code 41 = .ok (.aload_n 0, 1) := by decide +kernel
theorem d4_42 : decode prog_20_method_3_code 42 = .ok (.getfield 16, 3) := by decide +kernel
theorem d4_45 : decode prog_20_method_3_code 45 = .ok (.imul, 1) := by decide +kernel
theorem d4_46 : decode prog_20_method_3_code 46 = .ok (.iload_n 1, 1) := by decide +kernel
theorem d4_47 : decode prog_20_method_3_code 47 = .ok (.iastore, 1) := by decide +kernel
theorem d4_48 : decode prog_20_method_3_code 48 = .ok (.aload_n 0, 1) := by decide +kernel
theorem d4_49 : decode prog_20_method_3_code 49 = .ok (.getfield 12, 3) := by decide +kernel
theorem d4_52 : decode prog_20_method_3_code 52 = .ok (.iconst 2, 1) := by decide +kernel
theorem d4_53 : decode prog_20_method_3_code 53 = .ok (.aload_n 0, 1) := by decide +kernel
theorem d4_54 : decode prog_20_method_3_code 54 = .ok (.getfield 16, 3) := by decide +kernel
theorem d4_57 : decode prog_20_method_3_code 57 = .ok (.imul, 1) := by decide +kernel
theorem d4_58 : decode prog_20_method_3_code 58 = .ok (.iconst 1, 1) := by decide +kernel
theorem d4_59 : decode prog_20_method_3_code 59 = .ok (.iadd, 1) := by decide +kernel
theorem d4_60 : decode prog_20_method_3_code 60 = .ok (.iload_n 2, 1) := by decide +kernel
theorem d4_61 : decode prog_20_method_3_code 61 = .ok (.iastore, 1) := by decide +kernel
theorem d4_62 : decode prog_20_method_3_code 62 = .ok (.aload_n 0, 1) := by decide +kernel
theorem d4_63 : decode prog_20_method_3_code 63 = .ok (.dup, 1) := by decide +kernel
theorem d4_64 : decode prog_20_method_3_code 64 = .ok (.getfield 16, 3) := by decide +kernel
theorem d4_67 : decode prog_20_method_3_code 67 = .ok (.iconst 1, 1) := by decide +kernel
theorem d4_68 : decode prog_20_method_3_code 68 = .ok (.iadd, 1) := by decide +kernel
theorem d4_69 : decode prog_20_method_3_code 69 = .ok (.putfield 16, 3) := by decide +kernel
theorem d4_72 : decode prog_20_method_3_code 72 = .ok (.return_, 1) := by decide +kernel
theorem ef_rmA (m : MethodId) (x0 : Addr) (x1 : Int32) (x2 : Int32) : entryFrame m #[(.ref x0), (.int x1), (.int x2)] 3 = mkF m 0 #[.val (.ref x0), .val (.int x1), .val (.int x2)] [] := by first | (simp [entryFrame, mkF, argsToLocals, Value.category]; done) | rfl
def Q_rmA (Z : State) (r0 : Addr) (i1 : Int32) (i2 : Int32) (b : Addr) (s0 mz : Nat) (f : Nat → Value) (h0 : Heap) (n0 : Nat) (v : Option Value) (h : Heap) (L : List Loc) : Prop := v = none ∧ Fr n0 L ∧ Keep h0 h [r0, b] ∧ Fld Z h r0 "com/example/surrogate/surrogate/index/Entries" "size" "I" (.int (Int32.ofNat (s0 + 1))) ∧ ∃ b' mz' f', n0 ≤ b' ∧ r0 ≠ b' ∧ Fld Z h r0 "com/example/surrogate/surrogate/index/Entries" "entries" "[I" (.ref b') ∧ own_Arf Z h b' .int (Int32.ofNat mz') f' ∧ 2 * (s0 + 1) ≤ mz' ∧ mz' ≤ 12 ∧ mz' % 2 = 0 ∧ f' (2 * s0) = .int i1 ∧ f' (2 * s0 + 1) = .int i2 ∧ (∀ i, i < 2 * s0 → f' i = f i) ∧ (∀ i, i < mz' → ∃ x, f' i = .int x)
set_option maxRecDepth 65536 in
set_option maxHeartbeats 40000000 in
theorem rmA (l : Launch) (Z : State) (a0 : Array Value) (hw : ∀ d ∈ tables_1, d.before a0 Z = true) (ws : List Jvm.Cond) (r0 : Addr) (i1 : Int32) (i2 : Int32) (b : Addr) (s0 mz : Nat) (f : Nat → Value) (h0 : Heap) (n0 : Nat) (Z0 : n0 ≤ h0.size) (E_r0 : Exa Z h0 r0 "com/example/surrogate/surrogate/index/Entries") (F_size_r0 : Fld Z h0 r0 "com/example/surrogate/surrogate/index/Entries" "size" "I" (.int (Int32.ofNat s0))) (F_entries_r0 : Fld Z h0 r0 "com/example/surrogate/surrogate/index/Entries" "entries" "[I" (.ref b)) (V_b : own_Arf Z h0 b .int (Int32.ofNat mz) f) (hint : ∀ i, i < mz → ∃ x, f i = .int x) (g_r0 : n0 ≤ r0) (g_b : n0 ≤ b) (ne_r0_b : r0 ≠ b) (hs3 : s0 ≤ 3) (h2s : 2 * s0 ≤ mz) (hm12 : mz ≤ 12) (hme : mz % 2 = 0) :
    MetFree l (⟨"com/example/surrogate/surrogate/index/Entries", "add", "(II)V"⟩ : MethodName) (head1 (Jvm.Cond.code (⟨"com/example/surrogate/surrogate/index/Entries", "add", "(II)V"⟩ : MethodName) prog_20_method_3_code 3 none :: ws) ({ frames := 2, cells := 1, slots := 12, locals := 33 } : Room)) (fun a U => a = #[(.ref r0), (.int i1), (.int i2)] ∧ Z.Warmed39 U.vm ∧ U.heap = h0) (fun _ _ _ _ _ => True) (fun _ U o U' => ∃ v L, o = .returned v ∧ Q_rmA Z r0 i1 i2 b s0 mz f h0 n0 v U'.heap L ∧ FrameEnd U o U' L ({ frames := 2, cells := 1, slots := 12, locals := 33 } : Room).cells ({ frames := 2, cells := 1, slots := 12, locals := 33 } : Room).slots) := by
  refine MetFree.of_bodySF (plainFor_of_name own_pn1) hisR ?_
  intro p e s m args below meth c s₁ Bd hml0 hP hK
  obtain ⟨rfl, hZ, hh⟩ := hP
  have hx := Bd.exec
  have hby := Bd.bytes
  have hml : c.maxLocals = 3 := hml0
  have hown : s.vm.findClass "com/example/surrogate/surrogate/index/Entries" = some m.cls := findClass_of_methodNamed Bd.named
  have hnm := (name_of_methodNamed Bd.named Bd.method).1
  have X0 : Stand p l e ({ frames := 2, cells := 1, slots := 12, locals := 33 } : Room) s m #[(.ref r0), (.int i1), (.int i2)] below meth c s₁ [] 0 0 := Stand.of_body Bd
  have e0 : s₁.heap = h0 := by rw [← hh, Bd.state]; rfl
  show own_Go p e below (s₁.setTop (entryFrame m #[(.ref r0), (.int i1), (.int i2)] 3)) (fun t o => ∃ v L, o = .returned v ∧ Q_rmA Z r0 i1 i2 b s0 mz f h0 n0 v t.heap L ∧ FrameEnd s o t L ({ frames := 2, cells := 1, slots := 12, locals := 33 } : Room).cells ({ frames := 2, cells := 1, slots := 12, locals := 33 } : Room).slots)
  refine own_by (B := s₁.setTop (mkF m 0 #[.val (.ref r0), .val (.int i1), .val (.int i2)] [])) (fun t k => castTop (ef_rmA m r0 i1 i2) k) ?_
  have Nf := Fr.nil n0
  have Zs := Z0
  have Kp := Keep.refl h0 [r0, b]
  refine own_by (B := s₁.setTop (mkF m 1 #[.val (.ref r0), .val (.int i1), .val (.int i2)] [(.int (2 : Int32))])) (fun t k => XS.iconst X0.here hx rfl (hb hby d4_0) k) ?_
  refine own_by (B := s₁.setTop (mkF m 2 #[.val (.ref r0), .val (.int i1), .val (.int i2)] [(.ref r0), (.int (2 : Int32))])) (fun t k => XS.aloadN X0.here hx rfl (hb hby d4_1) rfl rfl k) ?_
  obtain ⟨T1, X1, e1, st1⟩ := getF X0 hx hZ hown (host := "") (Or.inl (hw _ (List.mem_of_getElem? (i := 18) rfl))) Via.refl e0 F_size_r0 (g := (mkF m 2 #[.val (.ref r0), .val (.int i1), .val (.int i2)] [(.ref r0), (.int (2 : Int32))])) rfl rfl (hb hby d4_2)
  refine own_by (B := T1.setTop (mkF m 5 #[.val (.ref r0), .val (.int i1), .val (.int i2)] [(.int (Int32.ofNat s0)), (.int (2 : Int32))])) st1 ?_
  refine own_by (B := T1.setTop (mkF m 6 #[.val (.ref r0), .val (.int i1), .val (.int i2)] [(.int ((2 : Int32) * (Int32.ofNat s0)))])) (fun t k => XS.imul X1.here hx rfl (hb hby d4_5) rfl k) ?_
  rw [show ((2 : Int32) * (Int32.ofNat s0)) = (Int32.ofNat (2 * s0)) from own_m2 s0]
  refine own_by (B := T1.setTop (mkF m 7 #[.val (.ref r0), .val (.int i1), .val (.int i2)] [(.ref r0), (.int (Int32.ofNat (2 * s0)))])) (fun t k => XS.aloadN X1.here hx rfl (hb hby d4_6) rfl rfl k) ?_
  obtain ⟨T2, X2, e2, st2⟩ := getF X1 hx hZ hown (host := "") (Or.inl (hw _ (List.mem_of_getElem? (i := 11) rfl))) Via.refl e1 F_entries_r0 (g := (mkF m 7 #[.val (.ref r0), .val (.int i1), .val (.int i2)] [(.ref r0), (.int (Int32.ofNat (2 * s0)))])) rfl rfl (hb hby d4_7)
  refine own_by (B := T2.setTop (mkF m 10 #[.val (.ref r0), .val (.int i1), .val (.int i2)] [(.ref b), (.int (Int32.ofNat (2 * s0)))])) st2 ?_
  obtain ⟨cl3, Ar3, Sz3, Ng3, -⟩ := id V_b
  refine own_by (B := T2.setTop (mkF m 11 #[.val (.ref r0), .val (.int i1), .val (.int i2)] [(.int (Int32.ofNat mz)), (.int (Int32.ofNat (2 * s0)))])) (fun t k => X2.arraylength hx (by rw [e2]; exact Ar3.1) (State.isArrayOf_alike hZ.alike Ar3.2.1) (g := (mkF m 10 #[.val (.ref r0), .val (.int i1), .val (.int i2)] [(.ref b), (.int (Int32.ofNat (2 * s0)))])) rfl rfl (hb hby d4_10) _ (by rw [len_of Sz3 Ng3]; exact k)) ?_
  by_cases hg : 2 * s0 = mz
  · refine own_by (B := T2.setTop (mkF m 14 #[.val (.ref r0), .val (.int i1), .val (.int i2)] [])) (fun t k => XS.icmpNo X2.here hx rfl (hb hby d4_11) rfl (teq (congrArg Int32.ofNat hg)).2 k) ?_
    refine own_by (B := T2.setTop (mkF m 15 #[.val (.ref r0), .val (.int i1), .val (.int i2)] [(.ref r0)])) (fun t k => XS.aloadN X2.here hx rfl (hb hby d4_14) rfl rfl k) ?_
    refine own_by (B := T2.setTop (mkF m 16 #[.val (.ref r0), .val (.int i1), .val (.int i2)] [(.ref r0), (.ref r0)])) (fun t k => XS.aloadN X2.here hx rfl (hb hby d4_15) rfl rfl k) ?_
    obtain ⟨T4, X4, e4, st4⟩ := getF X2 hx hZ hown (host := "") (Or.inl (hw _ (List.mem_of_getElem? (i := 11) rfl))) Via.refl e2 F_entries_r0 (g := (mkF m 16 #[.val (.ref r0), .val (.int i1), .val (.int i2)] [(.ref r0), (.ref r0)])) rfl rfl (hb hby d4_16)
    refine own_by (B := T4.setTop (mkF m 19 #[.val (.ref r0), .val (.int i1), .val (.int i2)] [(.ref b), (.ref r0)])) st4 ?_
    refine own_by (B := T4.setTop (mkF m 20 #[.val (.ref r0), .val (.int i1), .val (.int i2)] [(.int (2 : Int32)), (.ref b), (.ref r0)])) (fun t k => XS.iconst X4.here hx rfl (hb hby d4_19) k) ?_
    refine own_by (B := T4.setTop (mkF m 21 #[.val (.ref r0), .val (.int i1), .val (.int i2)] [(.int (2 : Int32)), (.int (2 : Int32)), (.ref b), (.ref r0)])) (fun t k => XS.iconst X4.here hx rfl (hb hby d4_20) k) ?_
    refine own_by (B := T4.setTop (mkF m 22 #[.val (.ref r0), .val (.int i1), .val (.int i2)] [(.ref r0), (.int (2 : Int32)), (.int (2 : Int32)), (.ref b), (.ref r0)])) (fun t k => XS.aloadN X4.here hx rfl (hb hby d4_21) rfl rfl k) ?_
    obtain ⟨T5, X5, e5, st5⟩ := getF X4 hx hZ hown (host := "") (Or.inl (hw _ (List.mem_of_getElem? (i := 11) rfl))) Via.refl e4 F_entries_r0 (g := (mkF m 22 #[.val (.ref r0), .val (.int i1), .val (.int i2)] [(.ref r0), (.int (2 : Int32)), (.int (2 : Int32)), (.ref b), (.ref r0)])) rfl rfl (hb hby d4_22)
    refine own_by (B := T5.setTop (mkF m 25 #[.val (.ref r0), .val (.int i1), .val (.int i2)] [(.ref b), (.int (2 : Int32)), (.int (2 : Int32)), (.ref b), (.ref r0)])) st5 ?_
    obtain ⟨cl6, Ar6, Sz6, Ng6, -⟩ := id V_b
    refine own_by (B := T5.setTop (mkF m 26 #[.val (.ref r0), .val (.int i1), .val (.int i2)] [(.int (Int32.ofNat mz)), (.int (2 : Int32)), (.int (2 : Int32)), (.ref b), (.ref r0)])) (fun t k => X5.arraylength hx (by rw [e5]; exact Ar6.1) (State.isArrayOf_alike hZ.alike Ar6.2.1) (g := (mkF m 25 #[.val (.ref r0), .val (.int i1), .val (.int i2)] [(.ref b), (.int (2 : Int32)), (.int (2 : Int32)), (.ref b), (.ref r0)])) rfl rfl (hb hby d4_25) _ (by rw [len_of Sz6 Ng6]; exact k)) ?_
    refine own_by (B := T5.setTop (mkF m 27 #[.val (.ref r0), .val (.int i1), .val (.int i2)] [(.int ((2 : Int32) * (Int32.ofNat mz))), (.int (2 : Int32)), (.ref b), (.ref r0)])) (fun t k => XS.imul X5.here hx rfl (hb hby d4_26) rfl k) ?_
    rw [show ((2 : Int32) * (Int32.ofNat mz)) = (Int32.ofNat (2 * mz)) from own_m2 mz]
    obtain ⟨_, _, ⟨T7, L7, k7, n7⟩, -, X7, ⟨Lc7, hQ7, l7, y7, z7⟩, st7⟩ := Jvm.LawKit.callS X5 hx (y := (⟨"java/lang/Math", "max", "(II)I"⟩ : MethodName)) hown (mvT hZ (hw _ (List.mem_of_getElem? (i := 25) rfl))) (mvT hZ (hw _ (List.mem_of_getElem? (i := 26) rfl))) (mvT hZ (hw _ (List.mem_of_getElem? (i := 27) rfl))) (mvT hZ (hw _ (List.mem_of_getElem? (i := 28) rfl))) (by decide) (backOf (W := 2) (rmMax l Z a0 hw [] (2 : Int32) (Int32.ofNat (2 * mz)) h0 n0 Zs) hZ (hw _ (List.mem_of_getElem? (i := 28) rfl)) (hw _ (List.mem_of_getElem? (i := 27) rfl)) (by decide) (by decide)) (g := (mkF m 27 #[.val (.ref r0), .val (.int i1), .val (.int i2)] [(.int (Int32.ofNat (2 * mz))), (.int (2 : Int32)), (.ref b), (.ref r0)])) rfl (by rw [hml]; rfl) (argsL := [(.int (2 : Int32)), (.int (Int32.ofNat (2 * mz)))]) (rest := [(.ref b), (.ref r0)]) (lenOf own_pd0 rfl) rfl (by show 2 * 0 + _ ≤ _; exact Nat.le_of_eq rfl) (hb hby d4_27) (fun _ _ => ⟨rfl, e5, (by decide : 0 + 0 ≤ _), (by decide : 0 + 0 ≤ _)⟩)
    dsimp only [Pt.U, Pt.locs, Pt.cells, Pt.slots] at X7 l7 y7 z7 st7 hQ7
    subst l7 y7 z7
    obtain ⟨rfl, Nq7, hp7⟩ := hQ7
    have Nf := Fr.app Nf Nq7
    have ec7 : T7.heap = h0 := hp7
    refine own_by (B := T7.setTop (mkF m 30 #[.val (.ref r0), .val (.int i1), .val (.int i2)] [(.int (own_max (2 : Int32) (Int32.ofNat (2 * mz)))), (.ref b), (.ref r0)])) st7 ?_
    obtain ⟨mk, hmk⟩ : ∃ mk, mk = (if mz = 0 then 2 else 2 * mz) := ⟨_, rfl⟩
    rw [show (own_max (2 : Int32) (Int32.ofNat (2 * mz))) = (Int32.ofNat mk) from by rw [own_maxN (by omega), hmk]]
    have hmk2 : mz < mk ∧ mk ≤ 12 ∧ mk % 2 = 0 ∧ 2 * (s0 + 1) ≤ mk := by rw [hmk]; split <;> omega
    obtain ⟨_, _, ⟨T8, L8, k8, n8⟩, -, X8, ⟨Lc8, hQ8, l8, y8, z8⟩, st8⟩ := Jvm.LawKit.callS X7 hx (y := (⟨"java/util/Arrays", "copyOf", "([II)[I"⟩ : MethodName)) hown (mvT hZ (hw _ (List.mem_of_getElem? (i := 29) rfl))) (mvT hZ (hw _ (List.mem_of_getElem? (i := 30) rfl))) (mvT hZ (hw _ (List.mem_of_getElem? (i := 31) rfl))) (mvT hZ (hw _ (List.mem_of_getElem? (i := 32) rfl))) (by decide) (backOf (W := 1) (rmC l Z a0 hw [] b mz mk f h0 n0 Zs V_b hint (by omega) (by omega)) hZ (hw _ (List.mem_of_getElem? (i := 32) rfl)) (hw _ (List.mem_of_getElem? (i := 31) rfl)) (by decide) (by decide)) (g := (mkF m 30 #[.val (.ref r0), .val (.int i1), .val (.int i2)] [(.int (Int32.ofNat mk)), (.ref b), (.ref r0)])) rfl (by rw [hml]; rfl) (argsL := [(.ref b), (.int (Int32.ofNat mk))]) (rest := [(.ref r0)]) (lenOf own_pd1 rfl) rfl (by show 2 * 0 + _ ≤ _; exact Nat.le_of_eq rfl) (hb hby d4_30) (fun _ _ => ⟨rfl, ec7, (by decide : 0 + 1 ≤ _), (by decide : 0 + 12 ≤ _)⟩)
    dsimp only [Pt.U, Pt.locs, Pt.cells, Pt.slots] at X8 l8 y8 z8 st8 hQ8
    subst l8 y8 z8
    obtain ⟨rfl, Nq8, Kc8, g8, Vc8, hgo, hgi⟩ := hQ8
    have Nf := Fr.app Nf Nq8
    obtain ⟨b8, gq8⟩ : ∃ z, z = h0.size := ⟨_, rfl⟩
    rw [← gq8] at Vc8 st8
    have ne_r0_b8 : r0 ≠ b8 := Nat.ne_of_lt (Nat.lt_of_lt_of_le E_r0.lt (Nat.le_of_eq gq8.symm))
    have ne_b_b8 : b ≠ b8 := Nat.ne_of_lt (Nat.lt_of_lt_of_le V_b.lt (Nat.le_of_eq gq8.symm))
    have g_b8 : n0 ≤ b8 := Nat.le_trans Zs (Nat.le_of_eq gq8.symm)
    have sz_b8 : h0.size ≤ b8 := Nat.le_trans Kp.1 (Nat.le_of_eq gq8.symm)
    have E_r0 := E_r0.keep Kc8
    have F_size_r0 := F_size_r0.keep Kc8 nin0
    have F_entries_r0 := F_entries_r0.keep Kc8 nin0
    have V_b := V_b.keep Kc8 nin0
    have Zs := Nat.le_trans Zs Kc8.1
    have Kp := Kp.trans Kc8 all0
    have V_b8 := Vc8
    refine own_by (B := T8.setTop (mkF m 33 #[.val (.ref r0), .val (.int i1), .val (.int i2)] [(.ref b8), (.ref r0)])) st8 ?_
    obtain ⟨T9, h9, X9, e9, W9, st9⟩ := putF X8 hx hZ hown (host := "") (Or.inl (hw _ (List.mem_of_getElem? (i := 11) rfl))) Via.refl rfl F_entries_r0 E_r0 (Or.inl (hw _ (List.mem_of_getElem? (i := 12) rfl))) (hw _ (List.mem_of_getElem? (i := 2) rfl)) (ty := (.array .int)) (by decide) rfl rfl (g := (mkF m 33 #[.val (.ref r0), .val (.int i1), .val (.int i2)] [(.ref b8), (.ref r0)])) rfl rfl (hb hby d4_33)
    have E_r0 := E_r0.wr W9
    have F_size_r0 := F_size_r0.other W9 (Or.inr (slot_ne (Or.inl (hw _ (List.mem_of_getElem? (i := 19) rfl))) (Or.inl (hw _ (List.mem_of_getElem? (i := 12) rfl))) (by decide) (t := .int) (t' := (.array .int)) (by decide) (by decide)))
    have F_entries_r0 := F_entries_r0.same W9
    have V_b := V_b.other W9 (Ne.symm ne_r0_b)
    have V_b8 := V_b8.other W9 (Ne.symm ne_r0_b8)
    have Zs : n0 ≤ h9.size := by rw [W9.size]; exact Zs
    have Kp := Kp.wr W9 (Or.inl (List.mem_of_getElem? (i := 0) rfl))
    have Nf := Fr.snoc X9 Nf g_r0
    refine own_by (B := T9.setTop (mkF m 36 #[.val (.ref r0), .val (.int i1), .val (.int i2)] [])) st9 ?_
    refine own_by (B := T9.setTop (mkF m 37 #[.val (.ref r0), .val (.int i1), .val (.int i2)] [(.ref r0)])) (fun t k => XS.aloadN X9.here hx rfl (hb hby d4_36) rfl rfl k) ?_
    obtain ⟨T10, X10, e10, st10⟩ := getF X9 hx hZ hown (host := "") (Or.inl (hw _ (List.mem_of_getElem? (i := 11) rfl))) Via.refl e9 F_entries_r0 (g := (mkF m 37 #[.val (.ref r0), .val (.int i1), .val (.int i2)] [(.ref r0)])) rfl rfl (hb hby d4_37)
    refine own_by (B := T10.setTop (mkF m 40 #[.val (.ref r0), .val (.int i1), .val (.int i2)] [(.ref b8)])) st10 ?_
    refine own_by (B := T10.setTop (mkF m 41 #[.val (.ref r0), .val (.int i1), .val (.int i2)] [(.int (2 : Int32)), (.ref b8)])) (fun t k => XS.iconst X10.here hx rfl (hb hby d4_40) k) ?_
    refine own_by (B := T10.setTop (mkF m 42 #[.val (.ref r0), .val (.int i1), .val (.int i2)] [(.ref r0), (.int (2 : Int32)), (.ref b8)])) (fun t k => XS.aloadN X10.here hx rfl (hb hby d4_41) rfl rfl k) ?_
    obtain ⟨T11, X11, e11, st11⟩ := getF X10 hx hZ hown (host := "") (Or.inl (hw _ (List.mem_of_getElem? (i := 18) rfl))) Via.refl e10 F_size_r0 (g := (mkF m 42 #[.val (.ref r0), .val (.int i1), .val (.int i2)] [(.ref r0), (.int (2 : Int32)), (.ref b8)])) rfl rfl (hb hby d4_42)
    refine own_by (B := T11.setTop (mkF m 45 #[.val (.ref r0), .val (.int i1), .val (.int i2)] [(.int (Int32.ofNat s0)), (.int (2 : Int32)), (.ref b8)])) st11 ?_
    refine own_by (B := T11.setTop (mkF m 46 #[.val (.ref r0), .val (.int i1), .val (.int i2)] [(.int ((2 : Int32) * (Int32.ofNat s0))), (.ref b8)])) (fun t k => XS.imul X11.here hx rfl (hb hby d4_45) rfl k) ?_
    rw [show ((2 : Int32) * (Int32.ofNat s0)) = (Int32.ofNat (2 * s0)) from own_m2 s0]
    refine own_by (B := T11.setTop (mkF m 47 #[.val (.ref r0), .val (.int i1), .val (.int i2)] [(.int i1), (.int (Int32.ofNat (2 * s0))), (.ref b8)])) (fun t k => XS.iloadN X11.here hx rfl (hb hby d4_46) rfl k) ?_
    obtain ⟨cl12, Ar12, hin12, -⟩ := V_b8.at (j := (Int32.ofNat (2 * s0))) (own_in (by omega) (by omega))
    obtain ⟨T12, h12, X12, e12, W12, st12⟩ := stI X11 hx hZ e11 Ar12 (j := (Int32.ofNat (2 * s0))) hin12 (g := (mkF m 47 #[.val (.ref r0), .val (.int i1), .val (.int i2)] [(.int i1), (.int (Int32.ofNat (2 * s0))), (.ref b8)])) rfl rfl (hb hby d4_47)
    have E_r0 := E_r0.wr W12
    have F_size_r0 := F_size_r0.other W12 (Or.inl ne_r0_b8)
    have F_entries_r0 := F_entries_r0.other W12 (Or.inl ne_r0_b8)
    have V_b := V_b.other W12 ne_b_b8
    have V_b8 := V_b8.set W12
    have Zs : n0 ≤ h12.size := by rw [W12.size]; exact Zs
    have Kp := Kp.wr W12 (Or.inr sz_b8)
    have Nf := Fr.snoc X12 Nf g_b8
    refine own_by (B := T12.setTop (mkF m 48 #[.val (.ref r0), .val (.int i1), .val (.int i2)] [])) st12 ?_
    refine own_by (B := T12.setTop (mkF m 49 #[.val (.ref r0), .val (.int i1), .val (.int i2)] [(.ref r0)])) (fun t k => XS.aloadN X12.here hx rfl (hb hby d4_48) rfl rfl k) ?_
    obtain ⟨T13, X13, e13, st13⟩ := getF X12 hx hZ hown (host := "") (Or.inl (hw _ (List.mem_of_getElem? (i := 11) rfl))) Via.refl e12 F_entries_r0 (g := (mkF m 49 #[.val (.ref r0), .val (.int i1), .val (.int i2)] [(.ref r0)])) rfl rfl (hb hby d4_49)
    refine own_by (B := T13.setTop (mkF m 52 #[.val (.ref r0), .val (.int i1), .val (.int i2)] [(.ref b8)])) st13 ?_
    refine own_by (B := T13.setTop (mkF m 53 #[.val (.ref r0), .val (.int i1), .val (.int i2)] [(.int (2 : Int32)), (.ref b8)])) (fun t k => XS.iconst X13.here hx rfl (hb hby d4_52) k) ?_
    refine own_by (B := T13.setTop (mkF m 54 #[.val (.ref r0), .val (.int i1), .val (.int i2)] [(.ref r0), (.int (2 : Int32)), (.ref b8)])) (fun t k => XS.aloadN X13.here hx rfl (hb hby d4_53) rfl rfl k) ?_
    obtain ⟨T14, X14, e14, st14⟩ := getF X13 hx hZ hown (host := "") (Or.inl (hw _ (List.mem_of_getElem? (i := 18) rfl))) Via.refl e13 F_size_r0 (g := (mkF m 54 #[.val (.ref r0), .val (.int i1), .val (.int i2)] [(.ref r0), (.int (2 : Int32)), (.ref b8)])) rfl rfl (hb hby d4_54)
    refine own_by (B := T14.setTop (mkF m 57 #[.val (.ref r0), .val (.int i1), .val (.int i2)] [(.int (Int32.ofNat s0)), (.int (2 : Int32)), (.ref b8)])) st14 ?_
    refine own_by (B := T14.setTop (mkF m 58 #[.val (.ref r0), .val (.int i1), .val (.int i2)] [(.int ((2 : Int32) * (Int32.ofNat s0))), (.ref b8)])) (fun t k => XS.imul X14.here hx rfl (hb hby d4_57) rfl k) ?_
    rw [show ((2 : Int32) * (Int32.ofNat s0)) = (Int32.ofNat (2 * s0)) from own_m2 s0]
    refine own_by (B := T14.setTop (mkF m 59 #[.val (.ref r0), .val (.int i1), .val (.int i2)] [(.int (1 : Int32)), (.int (Int32.ofNat (2 * s0))), (.ref b8)])) (fun t k => XS.iconst X14.here hx rfl (hb hby d4_58) k) ?_
    refine own_by (B := T14.setTop (mkF m 60 #[.val (.ref r0), .val (.int i1), .val (.int i2)] [(.int ((Int32.ofNat (2 * s0)) + (1 : Int32))), (.ref b8)])) (fun t k => XS.iadd X14.here hx rfl (hb hby d4_59) rfl k) ?_
    rw [show ((Int32.ofNat (2 * s0)) + (1 : Int32)) = (Int32.ofNat (2 * s0 + 1)) from own_a1 (2 * s0)]
    refine own_by (B := T14.setTop (mkF m 61 #[.val (.ref r0), .val (.int i1), .val (.int i2)] [(.int i2), (.int (Int32.ofNat (2 * s0 + 1))), (.ref b8)])) (fun t k => XS.iloadN X14.here hx rfl (hb hby d4_60) rfl k) ?_
    obtain ⟨cl15, Ar15, hin15, -⟩ := V_b8.at (j := (Int32.ofNat (2 * s0 + 1))) (own_in (by omega) (by omega))
    obtain ⟨T15, h15, X15, e15, W15, st15⟩ := stI X14 hx hZ e14 Ar15 (j := (Int32.ofNat (2 * s0 + 1))) hin15 (g := (mkF m 61 #[.val (.ref r0), .val (.int i1), .val (.int i2)] [(.int i2), (.int (Int32.ofNat (2 * s0 + 1))), (.ref b8)])) rfl rfl (hb hby d4_61)
    have E_r0 := E_r0.wr W15
    have F_size_r0 := F_size_r0.other W15 (Or.inl ne_r0_b8)
    have F_entries_r0 := F_entries_r0.other W15 (Or.inl ne_r0_b8)
    have V_b := V_b.other W15 ne_b_b8
    have V_b8 := V_b8.set W15
    have Zs : n0 ≤ h15.size := by rw [W15.size]; exact Zs
    have Kp := Kp.wr W15 (Or.inr sz_b8)
    have Nf := Fr.snoc X15 Nf g_b8
    refine own_by (B := T15.setTop (mkF m 62 #[.val (.ref r0), .val (.int i1), .val (.int i2)] [])) st15 ?_
    refine own_by (B := T15.setTop (mkF m 63 #[.val (.ref r0), .val (.int i1), .val (.int i2)] [(.ref r0)])) (fun t k => XS.aloadN X15.here hx rfl (hb hby d4_62) rfl rfl k) ?_
    refine own_by (B := T15.setTop (mkF m 64 #[.val (.ref r0), .val (.int i1), .val (.int i2)] [(.ref r0), (.ref r0)])) (fun t k => XS.dup X15.here hx rfl (hb hby d4_63) rfl rfl k) ?_
    obtain ⟨T16, X16, e16, st16⟩ := getF X15 hx hZ hown (host := "") (Or.inl (hw _ (List.mem_of_getElem? (i := 18) rfl))) Via.refl e15 F_size_r0 (g := (mkF m 64 #[.val (.ref r0), .val (.int i1), .val (.int i2)] [(.ref r0), (.ref r0)])) rfl rfl (hb hby d4_64)
    refine own_by (B := T16.setTop (mkF m 67 #[.val (.ref r0), .val (.int i1), .val (.int i2)] [(.int (Int32.ofNat s0)), (.ref r0)])) st16 ?_
    refine own_by (B := T16.setTop (mkF m 68 #[.val (.ref r0), .val (.int i1), .val (.int i2)] [(.int (1 : Int32)), (.int (Int32.ofNat s0)), (.ref r0)])) (fun t k => XS.iconst X16.here hx rfl (hb hby d4_67) k) ?_
    refine own_by (B := T16.setTop (mkF m 69 #[.val (.ref r0), .val (.int i1), .val (.int i2)] [(.int ((Int32.ofNat s0) + (1 : Int32))), (.ref r0)])) (fun t k => XS.iadd X16.here hx rfl (hb hby d4_68) rfl k) ?_
    rw [show ((Int32.ofNat s0) + (1 : Int32)) = (Int32.ofNat (s0 + 1)) from own_a1 s0]
    have t0 : (Int32.ofNat (2 * s0)).toNatClampNeg = 2 * s0 := own_tn (by omega)
    have t1 : (Int32.ofNat (2 * s0 + 1)).toNatClampNeg = 2 * s0 + 1 := own_tn (by omega)
    obtain ⟨T17, h17, X17, e17, W17, st17⟩ := putF X16 hx hZ hown (host := "") (Or.inl (hw _ (List.mem_of_getElem? (i := 18) rfl))) Via.refl e16 F_size_r0 E_r0 (Or.inl (hw _ (List.mem_of_getElem? (i := 19) rfl))) (hw _ (List.mem_of_getElem? (i := 2) rfl)) (ty := .int) (by decide) rfl rfl (g := (mkF m 69 #[.val (.ref r0), .val (.int i1), .val (.int i2)] [(.int (Int32.ofNat (s0 + 1))), (.ref r0)])) rfl rfl (hb hby d4_69)
    have E_r0 := E_r0.wr W17
    have F_size_r0 := F_size_r0.same W17
    have F_entries_r0 := F_entries_r0.other W17 (Or.inr (slot_ne (Or.inl (hw _ (List.mem_of_getElem? (i := 12) rfl))) (Or.inl (hw _ (List.mem_of_getElem? (i := 19) rfl))) (by decide) (t := (.array .int)) (t' := .int) (by decide) (by decide)))
    have V_b := V_b.other W17 (Ne.symm ne_r0_b)
    have V_b8 := V_b8.other W17 (Ne.symm ne_r0_b8)
    have Zs : n0 ≤ h17.size := by rw [W17.size]; exact Zs
    have Kp := Kp.wr W17 (Or.inl (List.mem_of_getElem? (i := 0) rfl))
    have Nf := Fr.snoc X17 Nf g_r0
    refine own_by (B := T17.setTop (mkF m 72 #[.val (.ref r0), .val (.int i1), .val (.int i2)] [])) st17 ?_
    exact own_end X17 (v := none) (fun _ => rfl) (BodyLoose.notSynchronized Bd) (Q := (Q_rmA Z r0 i1 i2 b s0 mz f h0 n0)) (fun fs hr => X17.returnOut hx Bd.returns (hb hby d4_72) hr) (show (Q_rmA Z r0 i1 i2 b s0 mz f h0 n0) _ T17.heap _ from (by rw [e17]; exact ⟨rfl, Nf, Kp, F_size_r0, b8, mk, _, g_b8, ne_r0_b8, F_entries_r0, V_b8, by omega, by omega, by omega, by simp only [t0, t1]; first | rw [if_neg (by omega), if_pos rfl] | rw [if_neg (by omega), if_pos trivial], by simp only [t0, t1]; first | rw [if_pos rfl] | rw [if_pos trivial], fun i hi => by simp only [t0, t1]; rw [if_neg (by omega), if_neg (by omega)]; exact hgo i (by omega), fun i hi => by
            simp only [t0, t1]
            by_cases q1 : i = 2 * s0 + 1
            · rw [if_pos q1]; exact ⟨_, rfl⟩
            · rw [if_neg q1]
              by_cases q2 : i = 2 * s0
              · rw [if_pos q2]; exact ⟨_, rfl⟩
              · rw [if_neg q2]; exact hgi i hi⟩)) (by decide) (by decide)
  · refine own_by (B := T2.setTop (mkF m 36 #[.val (.ref r0), .val (.int i1), .val (.int i2)] [])) (fun t k => XS.icmpYes X2.here hx rfl (pc0 := 11) (pc' := 36) rfl (hb hby d4_11) rfl (feq (fun q => hg (own_injN (by omega) (by omega) q))).2 (by decide) (by decide) k) ?_
    refine own_by (B := T2.setTop (mkF m 37 #[.val (.ref r0), .val (.int i1), .val (.int i2)] [(.ref r0)])) (fun t k => XS.aloadN X2.here hx rfl (hb hby d4_36) rfl rfl k) ?_
    obtain ⟨T18, X18, e18, st18⟩ := getF X2 hx hZ hown (host := "") (Or.inl (hw _ (List.mem_of_getElem? (i := 11) rfl))) Via.refl e2 F_entries_r0 (g := (mkF m 37 #[.val (.ref r0), .val (.int i1), .val (.int i2)] [(.ref r0)])) rfl rfl (hb hby d4_37)
    refine own_by (B := T18.setTop (mkF m 40 #[.val (.ref r0), .val (.int i1), .val (.int i2)] [(.ref b)])) st18 ?_
    refine own_by (B := T18.setTop (mkF m 41 #[.val (.ref r0), .val (.int i1), .val (.int i2)] [(.int (2 : Int32)), (.ref b)])) (fun t k => XS.iconst X18.here hx rfl (hb hby d4_40) k) ?_
    refine own_by (B := T18.setTop (mkF m 42 #[.val (.ref r0), .val (.int i1), .val (.int i2)] [(.ref r0), (.int (2 : Int32)), (.ref b)])) (fun t k => XS.aloadN X18.here hx rfl (hb hby d4_41) rfl rfl k) ?_
    obtain ⟨T19, X19, e19, st19⟩ := getF X18 hx hZ hown (host := "") (Or.inl (hw _ (List.mem_of_getElem? (i := 18) rfl))) Via.refl e18 F_size_r0 (g := (mkF m 42 #[.val (.ref r0), .val (.int i1), .val (.int i2)] [(.ref r0), (.int (2 : Int32)), (.ref b)])) rfl rfl (hb hby d4_42)
    refine own_by (B := T19.setTop (mkF m 45 #[.val (.ref r0), .val (.int i1), .val (.int i2)] [(.int (Int32.ofNat s0)), (.int (2 : Int32)), (.ref b)])) st19 ?_
    refine own_by (B := T19.setTop (mkF m 46 #[.val (.ref r0), .val (.int i1), .val (.int i2)] [(.int ((2 : Int32) * (Int32.ofNat s0))), (.ref b)])) (fun t k => XS.imul X19.here hx rfl (hb hby d4_45) rfl k) ?_
    rw [show ((2 : Int32) * (Int32.ofNat s0)) = (Int32.ofNat (2 * s0)) from own_m2 s0]
    refine own_by (B := T19.setTop (mkF m 47 #[.val (.ref r0), .val (.int i1), .val (.int i2)] [(.int i1), (.int (Int32.ofNat (2 * s0))), (.ref b)])) (fun t k => XS.iloadN X19.here hx rfl (hb hby d4_46) rfl k) ?_
    obtain ⟨cl20, Ar20, hin20, -⟩ := V_b.at (j := (Int32.ofNat (2 * s0))) (own_in (by omega) (by omega))
    obtain ⟨T20, h20, X20, e20, W20, st20⟩ := stI X19 hx hZ e19 Ar20 (j := (Int32.ofNat (2 * s0))) hin20 (g := (mkF m 47 #[.val (.ref r0), .val (.int i1), .val (.int i2)] [(.int i1), (.int (Int32.ofNat (2 * s0))), (.ref b)])) rfl rfl (hb hby d4_47)
    have E_r0 := E_r0.wr W20
    have F_size_r0 := F_size_r0.other W20 (Or.inl ne_r0_b)
    have F_entries_r0 := F_entries_r0.other W20 (Or.inl ne_r0_b)
    have V_b := V_b.set W20
    have Zs : n0 ≤ h20.size := by rw [W20.size]; exact Zs
    have Kp := Kp.wr W20 (Or.inl (List.mem_of_getElem? (i := 1) rfl))
    have Nf := Fr.snoc X20 Nf g_b
    refine own_by (B := T20.setTop (mkF m 48 #[.val (.ref r0), .val (.int i1), .val (.int i2)] [])) st20 ?_
    refine own_by (B := T20.setTop (mkF m 49 #[.val (.ref r0), .val (.int i1), .val (.int i2)] [(.ref r0)])) (fun t k => XS.aloadN X20.here hx rfl (hb hby d4_48) rfl rfl k) ?_
    obtain ⟨T21, X21, e21, st21⟩ := getF X20 hx hZ hown (host := "") (Or.inl (hw _ (List.mem_of_getElem? (i := 11) rfl))) Via.refl e20 F_entries_r0 (g := (mkF m 49 #[.val (.ref r0), .val (.int i1), .val (.int i2)] [(.ref r0)])) rfl rfl (hb hby d4_49)
    refine own_by (B := T21.setTop (mkF m 52 #[.val (.ref r0), .val (.int i1), .val (.int i2)] [(.ref b)])) st21 ?_
    refine own_by (B := T21.setTop (mkF m 53 #[.val (.ref r0), .val (.int i1), .val (.int i2)] [(.int (2 : Int32)), (.ref b)])) (fun t k => XS.iconst X21.here hx rfl (hb hby d4_52) k) ?_
    refine own_by (B := T21.setTop (mkF m 54 #[.val (.ref r0), .val (.int i1), .val (.int i2)] [(.ref r0), (.int (2 : Int32)), (.ref b)])) (fun t k => XS.aloadN X21.here hx rfl (hb hby d4_53) rfl rfl k) ?_
    obtain ⟨T22, X22, e22, st22⟩ := getF X21 hx hZ hown (host := "") (Or.inl (hw _ (List.mem_of_getElem? (i := 18) rfl))) Via.refl e21 F_size_r0 (g := (mkF m 54 #[.val (.ref r0), .val (.int i1), .val (.int i2)] [(.ref r0), (.int (2 : Int32)), (.ref b)])) rfl rfl (hb hby d4_54)
    refine own_by (B := T22.setTop (mkF m 57 #[.val (.ref r0), .val (.int i1), .val (.int i2)] [(.int (Int32.ofNat s0)), (.int (2 : Int32)), (.ref b)])) st22 ?_
    refine own_by (B := T22.setTop (mkF m 58 #[.val (.ref r0), .val (.int i1), .val (.int i2)] [(.int ((2 : Int32) * (Int32.ofNat s0))), (.ref b)])) (fun t k => XS.imul X22.here hx rfl (hb hby d4_57) rfl k) ?_
    rw [show ((2 : Int32) * (Int32.ofNat s0)) = (Int32.ofNat (2 * s0)) from own_m2 s0]
    refine own_by (B := T22.setTop (mkF m 59 #[.val (.ref r0), .val (.int i1), .val (.int i2)] [(.int (1 : Int32)), (.int (Int32.ofNat (2 * s0))), (.ref b)])) (fun t k => XS.iconst X22.here hx rfl (hb hby d4_58) k) ?_
    refine own_by (B := T22.setTop (mkF m 60 #[.val (.ref r0), .val (.int i1), .val (.int i2)] [(.int ((Int32.ofNat (2 * s0)) + (1 : Int32))), (.ref b)])) (fun t k => XS.iadd X22.here hx rfl (hb hby d4_59) rfl k) ?_
    rw [show ((Int32.ofNat (2 * s0)) + (1 : Int32)) = (Int32.ofNat (2 * s0 + 1)) from own_a1 (2 * s0)]
    refine own_by (B := T22.setTop (mkF m 61 #[.val (.ref r0), .val (.int i1), .val (.int i2)] [(.int i2), (.int (Int32.ofNat (2 * s0 + 1))), (.ref b)])) (fun t k => XS.iloadN X22.here hx rfl (hb hby d4_60) rfl k) ?_
    obtain ⟨cl23, Ar23, hin23, -⟩ := V_b.at (j := (Int32.ofNat (2 * s0 + 1))) (own_in (by omega) (by omega))
    obtain ⟨T23, h23, X23, e23, W23, st23⟩ := stI X22 hx hZ e22 Ar23 (j := (Int32.ofNat (2 * s0 + 1))) hin23 (g := (mkF m 61 #[.val (.ref r0), .val (.int i1), .val (.int i2)] [(.int i2), (.int (Int32.ofNat (2 * s0 + 1))), (.ref b)])) rfl rfl (hb hby d4_61)
    have E_r0 := E_r0.wr W23
    have F_size_r0 := F_size_r0.other W23 (Or.inl ne_r0_b)
    have F_entries_r0 := F_entries_r0.other W23 (Or.inl ne_r0_b)
    have V_b := V_b.set W23
    have Zs : n0 ≤ h23.size := by rw [W23.size]; exact Zs
    have Kp := Kp.wr W23 (Or.inl (List.mem_of_getElem? (i := 1) rfl))
    have Nf := Fr.snoc X23 Nf g_b
    refine own_by (B := T23.setTop (mkF m 62 #[.val (.ref r0), .val (.int i1), .val (.int i2)] [])) st23 ?_
    refine own_by (B := T23.setTop (mkF m 63 #[.val (.ref r0), .val (.int i1), .val (.int i2)] [(.ref r0)])) (fun t k => XS.aloadN X23.here hx rfl (hb hby d4_62) rfl rfl k) ?_
    refine own_by (B := T23.setTop (mkF m 64 #[.val (.ref r0), .val (.int i1), .val (.int i2)] [(.ref r0), (.ref r0)])) (fun t k => XS.dup X23.here hx rfl (hb hby d4_63) rfl rfl k) ?_
    obtain ⟨T24, X24, e24, st24⟩ := getF X23 hx hZ hown (host := "") (Or.inl (hw _ (List.mem_of_getElem? (i := 18) rfl))) Via.refl e23 F_size_r0 (g := (mkF m 64 #[.val (.ref r0), .val (.int i1), .val (.int i2)] [(.ref r0), (.ref r0)])) rfl rfl (hb hby d4_64)
    refine own_by (B := T24.setTop (mkF m 67 #[.val (.ref r0), .val (.int i1), .val (.int i2)] [(.int (Int32.ofNat s0)), (.ref r0)])) st24 ?_
    refine own_by (B := T24.setTop (mkF m 68 #[.val (.ref r0), .val (.int i1), .val (.int i2)] [(.int (1 : Int32)), (.int (Int32.ofNat s0)), (.ref r0)])) (fun t k => XS.iconst X24.here hx rfl (hb hby d4_67) k) ?_
    refine own_by (B := T24.setTop (mkF m 69 #[.val (.ref r0), .val (.int i1), .val (.int i2)] [(.int ((Int32.ofNat s0) + (1 : Int32))), (.ref r0)])) (fun t k => XS.iadd X24.here hx rfl (hb hby d4_68) rfl k) ?_
    rw [show ((Int32.ofNat s0) + (1 : Int32)) = (Int32.ofNat (s0 + 1)) from own_a1 s0]
    have t0 : (Int32.ofNat (2 * s0)).toNatClampNeg = 2 * s0 := own_tn (by omega)
    have t1 : (Int32.ofNat (2 * s0 + 1)).toNatClampNeg = 2 * s0 + 1 := own_tn (by omega)
    obtain ⟨T25, h25, X25, e25, W25, st25⟩ := putF X24 hx hZ hown (host := "") (Or.inl (hw _ (List.mem_of_getElem? (i := 18) rfl))) Via.refl e24 F_size_r0 E_r0 (Or.inl (hw _ (List.mem_of_getElem? (i := 19) rfl))) (hw _ (List.mem_of_getElem? (i := 2) rfl)) (ty := .int) (by decide) rfl rfl (g := (mkF m 69 #[.val (.ref r0), .val (.int i1), .val (.int i2)] [(.int (Int32.ofNat (s0 + 1))), (.ref r0)])) rfl rfl (hb hby d4_69)
    have E_r0 := E_r0.wr W25
    have F_size_r0 := F_size_r0.same W25
    have F_entries_r0 := F_entries_r0.other W25 (Or.inr (slot_ne (Or.inl (hw _ (List.mem_of_getElem? (i := 12) rfl))) (Or.inl (hw _ (List.mem_of_getElem? (i := 19) rfl))) (by decide) (t := (.array .int)) (t' := .int) (by decide) (by decide)))
    have V_b := V_b.other W25 (Ne.symm ne_r0_b)
    have Zs : n0 ≤ h25.size := by rw [W25.size]; exact Zs
    have Kp := Kp.wr W25 (Or.inl (List.mem_of_getElem? (i := 0) rfl))
    have Nf := Fr.snoc X25 Nf g_r0
    refine own_by (B := T25.setTop (mkF m 72 #[.val (.ref r0), .val (.int i1), .val (.int i2)] [])) st25 ?_
    exact own_end X25 (v := none) (fun _ => rfl) (BodyLoose.notSynchronized Bd) (Q := (Q_rmA Z r0 i1 i2 b s0 mz f h0 n0)) (fun fs hr => X25.returnOut hx Bd.returns (hb hby d4_72) hr) (show (Q_rmA Z r0 i1 i2 b s0 mz f h0 n0) _ T25.heap _ from (by rw [e25]; exact ⟨rfl, Nf, Kp, F_size_r0, b, mz, _, g_b, ne_r0_b, F_entries_r0, V_b, by omega, by omega, by omega, by simp only [t0, t1]; first | rw [if_neg (by omega), if_pos rfl] | rw [if_neg (by omega), if_pos trivial], by simp only [t0, t1]; first | rw [if_pos rfl] | rw [if_pos trivial], fun i hi => by simp only [t0, t1]; rw [if_neg (by omega), if_neg (by omega)], fun i hi => by
            simp only [t0, t1]
            by_cases q1 : i = 2 * s0 + 1
            · rw [if_pos q1]; exact ⟨_, rfl⟩
            · rw [if_neg q1]
              by_cases q2 : i = 2 * s0
              · rw [if_pos q2]; exact ⟨_, rfl⟩
              · rw [if_neg q2]; exact hint i hi⟩)) (by decide) (by decide)
theorem d3_0 : decode prog_20_method_8_code 0 = .ok (.aload_n 0, 1) := by decide +kernel
theorem d3_1 : decode prog_20_method_8_code 1 = .ok (.getfield 16, 3) := by decide +kernel
theorem d3_4 : decode prog_20_method_8_code 4 = .ok (.newarray .int, 2) := by decide +kernel
theorem d3_6 : decode prog_20_method_8_code 6 = .ok (.astore_n 1, 1) := by decide +kernel
theorem d3_7 : decode prog_20_method_8_code 7 = .ok (.iconst 0, 1) := by decide +kernel
theorem d3_8 : decode prog_20_method_8_code 8 = .ok (.istore_n 2, 1) := by decide +kernel
theorem d3_9 : decode prog_20_method_8_code 9 = .ok (.iload_n 2, 1) := by decide +kernel
theorem d3_10 : decode prog_20_method_8_code 10 = .ok (.aload_n 0, 1) := by decide +kernel
theorem d3_11 : decode prog_20_method_8_code 11 = .ok (.getfield 16, 3) := by decide +kernel
theorem d3_14 : decode prog_20_method_8_code 14 = .ok (.if_icmp .ge 22, 3) := by decide +kernel
theorem d3_36 : decode prog_20_method_8_code 36 = .ok (.aload_n 1, 1) := by decide +kernel
theorem d3_37 : decode prog_20_method_8_code 37 = .ok (.areturn, 1) := by decide +kernel
theorem ef_rmF0 (m : MethodId) (x0 : Addr) : entryFrame m #[(.ref x0)] 3 = mkF m 0 #[.val (.ref x0), .unset, .unset] [] := by first | (simp [entryFrame, mkF, argsToLocals, Value.category]; done) | rfl
def Q_rmF0 (Z : State) (r0 : Addr) (b : Addr) (mz : Nat) (f : Nat → Value)  (h0 : Heap) (n0 : Nat) (v : Option Value) (h : Heap) (L : List Loc) : Prop := v = some (.ref h0.size) ∧ Fr n0 L ∧ Keep h0 h [] ∧ ∃ g, own_Arf Z h h0.size .int (0 : Int32) g
set_option maxRecDepth 65536 in
set_option maxHeartbeats 40000000 in
theorem rmF0 (l : Launch) (Z : State) (a0 : Array Value) (hw : ∀ d ∈ tables_1, d.before a0 Z = true) (ws : List Jvm.Cond) (r0 : Addr) (b : Addr) (mz : Nat) (f : Nat → Value)  (h0 : Heap) (n0 : Nat) (Z0 : n0 ≤ h0.size) (F_size_r0 : Fld Z h0 r0 "com/example/surrogate/surrogate/index/Entries" "size" "I" (.int (0 : Int32))) (F_entries_r0 : Fld Z h0 r0 "com/example/surrogate/surrogate/index/Entries" "entries" "[I" (.ref b)) (V_b : own_Arf Z h0 b .int (Int32.ofNat mz) f) (ne_r0_b : r0 ≠ b) (hm : 0 ≤ mz) (hm12 : mz ≤ 12)  :
    MetFree l (⟨"com/example/surrogate/surrogate/index/Entries", "frequencies", "()[I"⟩ : MethodName) (head1 (Jvm.Cond.code (⟨"com/example/surrogate/surrogate/index/Entries", "frequencies", "()[I"⟩ : MethodName) prog_20_method_8_code 3 (some (.array .int)) :: ws) ({ frames := 0, cells := 1, slots := 0, locals := 0 } : Room)) (fun a U => a = #[(.ref r0)] ∧ Z.Warmed39 U.vm ∧ U.heap = h0) (fun _ _ _ _ _ => True) (fun _ U o U' => ∃ v L, o = .returned v ∧ Q_rmF0 Z r0 b mz f h0 n0 v U'.heap L ∧ FrameEnd U o U' L ({ frames := 0, cells := 1, slots := 0, locals := 0 } : Room).cells ({ frames := 0, cells := 1, slots := 0, locals := 0 } : Room).slots) := by
  refine MetFree.of_bodySF (plainFor_of_name own_pn1) hisR ?_
  intro p e s m args below meth c s₁ Bd hml0 hP hK
  obtain ⟨rfl, hZ, hh⟩ := hP
  have hx := Bd.exec
  have hby := Bd.bytes
  have hml : c.maxLocals = 3 := hml0
  have hown : s.vm.findClass "com/example/surrogate/surrogate/index/Entries" = some m.cls := findClass_of_methodNamed Bd.named
  have hnm := (name_of_methodNamed Bd.named Bd.method).1
  have X0 : Stand p l e ({ frames := 0, cells := 1, slots := 0, locals := 0 } : Room) s m #[(.ref r0)] below meth c s₁ [] 0 0 := Stand.of_body Bd
  have e0 : s₁.heap = h0 := by rw [← hh, Bd.state]; rfl
  show own_Go p e below (s₁.setTop (entryFrame m #[(.ref r0)] 3)) (fun t o => ∃ v L, o = .returned v ∧ Q_rmF0 Z r0 b mz f h0 n0 v t.heap L ∧ FrameEnd s o t L ({ frames := 0, cells := 1, slots := 0, locals := 0 } : Room).cells ({ frames := 0, cells := 1, slots := 0, locals := 0 } : Room).slots)
  refine own_by (B := s₁.setTop (mkF m 0 #[.val (.ref r0), .unset, .unset] [])) (fun t k => castTop (ef_rmF0 m r0) k) ?_
  have Nf := Fr.nil n0
  have Zs := Z0
  have Kp := Keep.refl h0 []
  refine own_by (B := s₁.setTop (mkF m 1 #[.val (.ref r0), .unset, .unset] [(.ref r0)])) (fun t k => XS.aloadN X0.here hx rfl (hb hby d3_0) rfl rfl k) ?_
  obtain ⟨T1, X1, e1, st1⟩ := getF X0 hx hZ hown (host := "") (Or.inl (hw _ (List.mem_of_getElem? (i := 18) rfl))) Via.refl e0 F_size_r0 (g := (mkF m 1 #[.val (.ref r0), .unset, .unset] [(.ref r0)])) rfl rfl (hb hby d3_1)
  refine own_by (B := T1.setTop (mkF m 4 #[.val (.ref r0), .unset, .unset] [(.int (0 : Int32))])) st1 ?_
  obtain ⟨T2, h2, k2, X2, e2, E2, A2, st2⟩ := newP X1 hx hZ (hw _ (List.mem_of_getElem? (i := 10) rfl)) e1 (g := (mkF m 4 #[.val (.ref r0), .unset, .unset] [(.int (0 : Int32))])) rfl (hb hby d3_4) rfl (by decide) (cap := 0) (by decide) (by decide) (by decide) (by decide)
  obtain ⟨b2, gq2⟩ : ∃ z, z = h0.size := ⟨_, rfl⟩
  rw [← gq2] at A2 st2
  have ne_r0_b2 : r0 ≠ b2 := Nat.ne_of_lt (Nat.lt_of_lt_of_le F_size_r0.lt (Nat.le_of_eq gq2.symm))
  have ne_b_b2 : b ≠ b2 := Nat.ne_of_lt (Nat.lt_of_lt_of_le V_b.lt (Nat.le_of_eq gq2.symm))
  have g_b2 : n0 ≤ b2 := Nat.le_trans Zs (Nat.le_of_eq gq2.symm)
  have sz_b2 : h0.size ≤ b2 := Nat.le_trans Kp.1 (Nat.le_of_eq gq2.symm)
  have F_size_r0 := F_size_r0.ext E2
  have F_entries_r0 := F_entries_r0.ext E2
  have V_b := V_b.ext E2
  have Zs := Nat.le_trans Zs E2.1
  have Kp := Kp.ext E2
  have V_b2 := own_Arf.new A2 (by decide)
  refine own_by (B := T2.setTop (mkF m 6 #[.val (.ref r0), .unset, .unset] [(.ref b2)])) st2 ?_
  refine own_by (B := T2.setTop (mkF m 7 #[.val (.ref r0), .val (.ref b2), .unset] [])) (fun t k => XS.astoreN X2.here hx rfl (hb hby d3_6) rfl rfl (l' := #[.val (.ref r0), .val (.ref b2), .unset]) rfl k) ?_
  refine own_by (B := T2.setTop (mkF m 8 #[.val (.ref r0), .val (.ref b2), .unset] [(.int (0 : Int32))])) (fun t k => XS.iconst X2.here hx rfl (hb hby d3_7) k) ?_
  refine own_by (B := T2.setTop (mkF m 9 #[.val (.ref r0), .val (.ref b2), .val (.int (0 : Int32))] [])) (fun t k => XS.istoreN X2.here hx rfl (hb hby d3_8) rfl (l' := #[.val (.ref r0), .val (.ref b2), .val (.int (0 : Int32))]) rfl k) ?_
  refine own_by (B := T2.setTop (mkF m 10 #[.val (.ref r0), .val (.ref b2), .val (.int (0 : Int32))] [(.int (0 : Int32))])) (fun t k => XS.iloadN X2.here hx rfl (hb hby d3_9) rfl k) ?_
  refine own_by (B := T2.setTop (mkF m 11 #[.val (.ref r0), .val (.ref b2), .val (.int (0 : Int32))] [(.ref r0), (.int (0 : Int32))])) (fun t k => XS.aloadN X2.here hx rfl (hb hby d3_10) rfl rfl k) ?_
  obtain ⟨T3, X3, e3, st3⟩ := getF X2 hx hZ hown (host := "") (Or.inl (hw _ (List.mem_of_getElem? (i := 18) rfl))) Via.refl e2 F_size_r0 (g := (mkF m 11 #[.val (.ref r0), .val (.ref b2), .val (.int (0 : Int32))] [(.ref r0), (.int (0 : Int32))])) rfl rfl (hb hby d3_11)
  refine own_by (B := T3.setTop (mkF m 14 #[.val (.ref r0), .val (.ref b2), .val (.int (0 : Int32))] [(.int (0 : Int32)), (.int (0 : Int32))])) st3 ?_
  refine own_by (B := T3.setTop (mkF m 36 #[.val (.ref r0), .val (.ref b2), .val (.int (0 : Int32))] [])) (fun t k => XS.icmpYes X3.here hx rfl (pc0 := 14) (pc' := 36) rfl (hb hby d3_14) rfl (flt (by decide)).2.1 (by decide) (by decide) k) ?_
  refine own_by (B := T3.setTop (mkF m 37 #[.val (.ref r0), .val (.ref b2), .val (.int (0 : Int32))] [(.ref b2)])) (fun t k => XS.aloadN X3.here hx rfl (hb hby d3_36) rfl rfl k) ?_
  exact own_end X3 (v := some (.ref b2)) (fun h => by rw [Bd.returns] at h; cases h) (BodyLoose.notSynchronized Bd) (Q := (Q_rmF0 Z r0 b mz f h0 n0)) (fun fs hr => retOut X3 hx (t := (.array .int)) Bd.returns rfl (Or.inr (Or.inr (Or.inr (Or.inr ⟨rfl, rfl, rfl⟩)))) (hb hby d3_37) hr) (show (Q_rmF0 Z r0 b mz f h0 n0) _ T3.heap _ from (by rw [e3]; exact ⟨by rw [gq2], Nf, Kp, _, by rw [← gq2]; exact V_b2⟩)) (by decide) (by decide)
theorem d3_17 : decode prog_20_method_8_code 17 = .ok (.aload_n 1, 1) := by decide +kernel
theorem d3_18 : decode prog_20_method_8_code 18 = .ok (.iload_n 2, 1) := by decide +kernel
theorem d3_19 : decode prog_20_method_8_code 19 = .ok (.aload_n 0, 1) := by decide +kernel
theorem d3_20 : decode prog_20_method_8_code 20 = .ok (.getfield 12, 3) := by decide +kernel
theorem d3_23 : decode prog_20_method_8_code 23 = .ok (.iconst 2, 1) := by decide +kernel
theorem d3_24 : decode prog_20_method_8_code 24 = .ok (.iload_n 2, 1) := by decide +kernel
theorem d3_25 : decode prog_20_method_8_code 25 = .ok (.imul, 1) := by decide +kernel
theorem d3_26 : decode prog_20_method_8_code 26 = .ok (.iconst 1, 1) := by decide +kernel
theorem d3_27 : decode prog_20_method_8_code 27 = .ok (.iadd, 1) := by decide +kernel
theorem d3_28 : decode prog_20_method_8_code 28 = .ok (.iaload, 1) := by decide +kernel
theorem d3_29 : decode prog_20_method_8_code 29 = .ok (.iastore, 1) := by decide +kernel
theorem d3_30 : decode prog_20_method_8_code 30 = .ok (.iinc 2 1, 3) := by decide +kernel
theorem d3_33 : decode prog_20_method_8_code 33 = .ok (.goto (-24), 3) := by decide +kernel
theorem ef_rmF1 (m : MethodId) (x0 : Addr) : entryFrame m #[(.ref x0)] 3 = mkF m 0 #[.val (.ref x0), .unset, .unset] [] := by first | (simp [entryFrame, mkF, argsToLocals, Value.category]; done) | rfl
def Q_rmF1 (Z : State) (r0 : Addr) (b : Addr) (mz : Nat) (f : Nat → Value) (x0 : Int32) (h0 : Heap) (n0 : Nat) (v : Option Value) (h : Heap) (L : List Loc) : Prop := v = some (.ref h0.size) ∧ Fr n0 L ∧ Keep h0 h [] ∧ ∃ g, own_Arf Z h h0.size .int (1 : Int32) g ∧ g 0 = .int x0
set_option maxRecDepth 65536 in
set_option maxHeartbeats 40000000 in
theorem rmF1 (l : Launch) (Z : State) (a0 : Array Value) (hw : ∀ d ∈ tables_1, d.before a0 Z = true) (ws : List Jvm.Cond) (r0 : Addr) (b : Addr) (mz : Nat) (f : Nat → Value) (x0 : Int32) (h0 : Heap) (n0 : Nat) (Z0 : n0 ≤ h0.size) (F_size_r0 : Fld Z h0 r0 "com/example/surrogate/surrogate/index/Entries" "size" "I" (.int (1 : Int32))) (F_entries_r0 : Fld Z h0 r0 "com/example/surrogate/surrogate/index/Entries" "entries" "[I" (.ref b)) (V_b : own_Arf Z h0 b .int (Int32.ofNat mz) f) (ne_r0_b : r0 ≠ b) (hm : 2 ≤ mz) (hm12 : mz ≤ 12) (hf0 : f 1 = .int x0) :
    MetFree l (⟨"com/example/surrogate/surrogate/index/Entries", "frequencies", "()[I"⟩ : MethodName) (head1 (Jvm.Cond.code (⟨"com/example/surrogate/surrogate/index/Entries", "frequencies", "()[I"⟩ : MethodName) prog_20_method_8_code 3 (some (.array .int)) :: ws) ({ frames := 0, cells := 1, slots := 1, locals := 0 } : Room)) (fun a U => a = #[(.ref r0)] ∧ Z.Warmed39 U.vm ∧ U.heap = h0) (fun _ _ _ _ _ => True) (fun _ U o U' => ∃ v L, o = .returned v ∧ Q_rmF1 Z r0 b mz f x0 h0 n0 v U'.heap L ∧ FrameEnd U o U' L ({ frames := 0, cells := 1, slots := 1, locals := 0 } : Room).cells ({ frames := 0, cells := 1, slots := 1, locals := 0 } : Room).slots) := by
  refine MetFree.of_bodySF (plainFor_of_name own_pn1) hisR ?_
  intro p e s m args below meth c s₁ Bd hml0 hP hK
  obtain ⟨rfl, hZ, hh⟩ := hP
  have hx := Bd.exec
  have hby := Bd.bytes
  have hml : c.maxLocals = 3 := hml0
  have hown : s.vm.findClass "com/example/surrogate/surrogate/index/Entries" = some m.cls := findClass_of_methodNamed Bd.named
  have hnm := (name_of_methodNamed Bd.named Bd.method).1
  have X0 : Stand p l e ({ frames := 0, cells := 1, slots := 1, locals := 0 } : Room) s m #[(.ref r0)] below meth c s₁ [] 0 0 := Stand.of_body Bd
  have e0 : s₁.heap = h0 := by rw [← hh, Bd.state]; rfl
  show own_Go p e below (s₁.setTop (entryFrame m #[(.ref r0)] 3)) (fun t o => ∃ v L, o = .returned v ∧ Q_rmF1 Z r0 b mz f x0 h0 n0 v t.heap L ∧ FrameEnd s o t L ({ frames := 0, cells := 1, slots := 1, locals := 0 } : Room).cells ({ frames := 0, cells := 1, slots := 1, locals := 0 } : Room).slots)
  refine own_by (B := s₁.setTop (mkF m 0 #[.val (.ref r0), .unset, .unset] [])) (fun t k => castTop (ef_rmF1 m r0) k) ?_
  have Nf := Fr.nil n0
  have Zs := Z0
  have Kp := Keep.refl h0 []
  refine own_by (B := s₁.setTop (mkF m 1 #[.val (.ref r0), .unset, .unset] [(.ref r0)])) (fun t k => XS.aloadN X0.here hx rfl (hb hby d3_0) rfl rfl k) ?_
  obtain ⟨T1, X1, e1, st1⟩ := getF X0 hx hZ hown (host := "") (Or.inl (hw _ (List.mem_of_getElem? (i := 18) rfl))) Via.refl e0 F_size_r0 (g := (mkF m 1 #[.val (.ref r0), .unset, .unset] [(.ref r0)])) rfl rfl (hb hby d3_1)
  refine own_by (B := T1.setTop (mkF m 4 #[.val (.ref r0), .unset, .unset] [(.int (1 : Int32))])) st1 ?_
  obtain ⟨T2, h2, k2, X2, e2, E2, A2, st2⟩ := newP X1 hx hZ (hw _ (List.mem_of_getElem? (i := 10) rfl)) e1 (g := (mkF m 4 #[.val (.ref r0), .unset, .unset] [(.int (1 : Int32))])) rfl (hb hby d3_4) rfl (by decide) (cap := 1) (by decide) (by decide) (by decide) (by decide)
  obtain ⟨b2, gq2⟩ : ∃ z, z = h0.size := ⟨_, rfl⟩
  rw [← gq2] at A2 st2
  have ne_r0_b2 : r0 ≠ b2 := Nat.ne_of_lt (Nat.lt_of_lt_of_le F_size_r0.lt (Nat.le_of_eq gq2.symm))
  have ne_b_b2 : b ≠ b2 := Nat.ne_of_lt (Nat.lt_of_lt_of_le V_b.lt (Nat.le_of_eq gq2.symm))
  have g_b2 : n0 ≤ b2 := Nat.le_trans Zs (Nat.le_of_eq gq2.symm)
  have sz_b2 : h0.size ≤ b2 := Nat.le_trans Kp.1 (Nat.le_of_eq gq2.symm)
  have F_size_r0 := F_size_r0.ext E2
  have F_entries_r0 := F_entries_r0.ext E2
  have V_b := V_b.ext E2
  have Zs := Nat.le_trans Zs E2.1
  have Kp := Kp.ext E2
  have V_b2 := own_Arf.new A2 (by decide)
  refine own_by (B := T2.setTop (mkF m 6 #[.val (.ref r0), .unset, .unset] [(.ref b2)])) st2 ?_
  refine own_by (B := T2.setTop (mkF m 7 #[.val (.ref r0), .val (.ref b2), .unset] [])) (fun t k => XS.astoreN X2.here hx rfl (hb hby d3_6) rfl rfl (l' := #[.val (.ref r0), .val (.ref b2), .unset]) rfl k) ?_
  refine own_by (B := T2.setTop (mkF m 8 #[.val (.ref r0), .val (.ref b2), .unset] [(.int (0 : Int32))])) (fun t k => XS.iconst X2.here hx rfl (hb hby d3_7) k) ?_
  refine own_by (B := T2.setTop (mkF m 9 #[.val (.ref r0), .val (.ref b2), .val (.int (0 : Int32))] [])) (fun t k => XS.istoreN X2.here hx rfl (hb hby d3_8) rfl (l' := #[.val (.ref r0), .val (.ref b2), .val (.int (0 : Int32))]) rfl k) ?_
  refine own_by (B := T2.setTop (mkF m 10 #[.val (.ref r0), .val (.ref b2), .val (.int (0 : Int32))] [(.int (0 : Int32))])) (fun t k => XS.iloadN X2.here hx rfl (hb hby d3_9) rfl k) ?_
  refine own_by (B := T2.setTop (mkF m 11 #[.val (.ref r0), .val (.ref b2), .val (.int (0 : Int32))] [(.ref r0), (.int (0 : Int32))])) (fun t k => XS.aloadN X2.here hx rfl (hb hby d3_10) rfl rfl k) ?_
  obtain ⟨T3, X3, e3, st3⟩ := getF X2 hx hZ hown (host := "") (Or.inl (hw _ (List.mem_of_getElem? (i := 18) rfl))) Via.refl e2 F_size_r0 (g := (mkF m 11 #[.val (.ref r0), .val (.ref b2), .val (.int (0 : Int32))] [(.ref r0), (.int (0 : Int32))])) rfl rfl (hb hby d3_11)
  refine own_by (B := T3.setTop (mkF m 14 #[.val (.ref r0), .val (.ref b2), .val (.int (0 : Int32))] [(.int (1 : Int32)), (.int (0 : Int32))])) st3 ?_
  refine own_by (B := T3.setTop (mkF m 17 #[.val (.ref r0), .val (.ref b2), .val (.int (0 : Int32))] [])) (fun t k => XS.icmpNo X3.here hx rfl (hb hby d3_14) rfl (tlt (by decide)).2.1 k) ?_
  refine own_by (B := T3.setTop (mkF m 18 #[.val (.ref r0), .val (.ref b2), .val (.int (0 : Int32))] [(.ref b2)])) (fun t k => XS.aloadN X3.here hx rfl (hb hby d3_17) rfl rfl k) ?_
  refine own_by (B := T3.setTop (mkF m 19 #[.val (.ref r0), .val (.ref b2), .val (.int (0 : Int32))] [(.int (0 : Int32)), (.ref b2)])) (fun t k => XS.iloadN X3.here hx rfl (hb hby d3_18) rfl k) ?_
  refine own_by (B := T3.setTop (mkF m 20 #[.val (.ref r0), .val (.ref b2), .val (.int (0 : Int32))] [(.ref r0), (.int (0 : Int32)), (.ref b2)])) (fun t k => XS.aloadN X3.here hx rfl (hb hby d3_19) rfl rfl k) ?_
  obtain ⟨T4, X4, e4, st4⟩ := getF X3 hx hZ hown (host := "") (Or.inl (hw _ (List.mem_of_getElem? (i := 11) rfl))) Via.refl e3 F_entries_r0 (g := (mkF m 20 #[.val (.ref r0), .val (.ref b2), .val (.int (0 : Int32))] [(.ref r0), (.int (0 : Int32)), (.ref b2)])) rfl rfl (hb hby d3_20)
  refine own_by (B := T4.setTop (mkF m 23 #[.val (.ref r0), .val (.ref b2), .val (.int (0 : Int32))] [(.ref b), (.int (0 : Int32)), (.ref b2)])) st4 ?_
  refine own_by (B := T4.setTop (mkF m 24 #[.val (.ref r0), .val (.ref b2), .val (.int (0 : Int32))] [(.int (2 : Int32)), (.ref b), (.int (0 : Int32)), (.ref b2)])) (fun t k => XS.iconst X4.here hx rfl (hb hby d3_23) k) ?_
  refine own_by (B := T4.setTop (mkF m 25 #[.val (.ref r0), .val (.ref b2), .val (.int (0 : Int32))] [(.int (0 : Int32)), (.int (2 : Int32)), (.ref b), (.int (0 : Int32)), (.ref b2)])) (fun t k => XS.iloadN X4.here hx rfl (hb hby d3_24) rfl k) ?_
  refine own_by (B := T4.setTop (mkF m 26 #[.val (.ref r0), .val (.ref b2), .val (.int (0 : Int32))] [(.int (0 : Int32)), (.ref b), (.int (0 : Int32)), (.ref b2)])) (fun t k => XS.imul X4.here hx rfl (hb hby d3_25) rfl k) ?_
  refine own_by (B := T4.setTop (mkF m 27 #[.val (.ref r0), .val (.ref b2), .val (.int (0 : Int32))] [(.int (1 : Int32)), (.int (0 : Int32)), (.ref b), (.int (0 : Int32)), (.ref b2)])) (fun t k => XS.iconst X4.here hx rfl (hb hby d3_26) k) ?_
  refine own_by (B := T4.setTop (mkF m 28 #[.val (.ref r0), .val (.ref b2), .val (.int (0 : Int32))] [(.int (1 : Int32)), (.ref b), (.int (0 : Int32)), (.ref b2)])) (fun t k => XS.iadd X4.here hx rfl (hb hby d3_27) rfl k) ?_
  obtain ⟨cl5, Ar5, hin5, hat5⟩ := V_b.at (j := (1 : Int32)) (own_in (i := 1) (by omega) (by omega))
  have hat5 := hat5.trans (congrArg some (show _ = (.int x0) from hf0))
  refine own_by (B := T4.setTop (mkF m 29 #[.val (.ref r0), .val (.ref b2), .val (.int (0 : Int32))] [(.int x0), (.int (0 : Int32)), (.ref b2)])) (fun t k => X4.iaload hx (j := (1 : Int32)) (v := (.int x0)) (by rw [e4]; exact Ar5.1) (State.isArrayOf_alike hZ.alike Ar5.2.1) Ar5.2.2 hin5 hat5 (g := (mkF m 28 #[.val (.ref r0), .val (.ref b2), .val (.int (0 : Int32))] [(.int (1 : Int32)), (.ref b), (.int (0 : Int32)), (.ref b2)])) rfl rfl (hb hby d3_28) _ k) ?_
  obtain ⟨cl6, Ar6, hin6, -⟩ := V_b2.at (j := (0 : Int32)) ⟨by decide, by decide⟩
  obtain ⟨T6, h6, X6, e6, W6, st6⟩ := stI X4 hx hZ e4 Ar6 (j := (0 : Int32)) hin6 (g := (mkF m 29 #[.val (.ref r0), .val (.ref b2), .val (.int (0 : Int32))] [(.int x0), (.int (0 : Int32)), (.ref b2)])) rfl rfl (hb hby d3_29)
  have F_size_r0 := F_size_r0.other W6 (Or.inl ne_r0_b2)
  have F_entries_r0 := F_entries_r0.other W6 (Or.inl ne_r0_b2)
  have V_b := V_b.other W6 ne_b_b2
  have V_b2 := V_b2.set W6
  have Zs : n0 ≤ h6.size := by rw [W6.size]; exact Zs
  have Kp := Kp.wr W6 (Or.inr sz_b2)
  have Nf := Fr.snoc X6 Nf g_b2
  refine own_by (B := T6.setTop (mkF m 30 #[.val (.ref r0), .val (.ref b2), .val (.int (0 : Int32))] [])) st6 ?_
  refine own_by (B := T6.setTop (mkF m 33 #[.val (.ref r0), .val (.ref b2), .val (.int (1 : Int32))] [])) (fun t k => XS.iinc X6.here hx rfl (hb hby d3_30) rfl (l' := #[.val (.ref r0), .val (.ref b2), .val (.int (1 : Int32))]) rfl k) ?_
  refine own_by (B := T6.setTop (mkF m 9 #[.val (.ref r0), .val (.ref b2), .val (.int (1 : Int32))] [])) (fun t k => XS.goto X6.here hx rfl (pc0 := 33) (pc' := 9) rfl (hb hby d3_33) (by decide) (by decide) k) ?_
  refine own_by (B := T6.setTop (mkF m 10 #[.val (.ref r0), .val (.ref b2), .val (.int (1 : Int32))] [(.int (1 : Int32))])) (fun t k => XS.iloadN X6.here hx rfl (hb hby d3_9) rfl k) ?_
  refine own_by (B := T6.setTop (mkF m 11 #[.val (.ref r0), .val (.ref b2), .val (.int (1 : Int32))] [(.ref r0), (.int (1 : Int32))])) (fun t k => XS.aloadN X6.here hx rfl (hb hby d3_10) rfl rfl k) ?_
  obtain ⟨T7, X7, e7, st7⟩ := getF X6 hx hZ hown (host := "") (Or.inl (hw _ (List.mem_of_getElem? (i := 18) rfl))) Via.refl e6 F_size_r0 (g := (mkF m 11 #[.val (.ref r0), .val (.ref b2), .val (.int (1 : Int32))] [(.ref r0), (.int (1 : Int32))])) rfl rfl (hb hby d3_11)
  refine own_by (B := T7.setTop (mkF m 14 #[.val (.ref r0), .val (.ref b2), .val (.int (1 : Int32))] [(.int (1 : Int32)), (.int (1 : Int32))])) st7 ?_
  refine own_by (B := T7.setTop (mkF m 36 #[.val (.ref r0), .val (.ref b2), .val (.int (1 : Int32))] [])) (fun t k => XS.icmpYes X7.here hx rfl (pc0 := 14) (pc' := 36) rfl (hb hby d3_14) rfl (flt (by decide)).2.1 (by decide) (by decide) k) ?_
  refine own_by (B := T7.setTop (mkF m 37 #[.val (.ref r0), .val (.ref b2), .val (.int (1 : Int32))] [(.ref b2)])) (fun t k => XS.aloadN X7.here hx rfl (hb hby d3_36) rfl rfl k) ?_
  exact own_end X7 (v := some (.ref b2)) (fun h => by rw [Bd.returns] at h; cases h) (BodyLoose.notSynchronized Bd) (Q := (Q_rmF1 Z r0 b mz f x0 h0 n0)) (fun fs hr => retOut X7 hx (t := (.array .int)) Bd.returns rfl (Or.inr (Or.inr (Or.inr (Or.inr ⟨rfl, rfl, rfl⟩)))) (hb hby d3_37) hr) (show (Q_rmF1 Z r0 b mz f x0 h0 n0) _ T7.heap _ from (by rw [e7]; exact ⟨by rw [gq2], Nf, Kp, _, by rw [← gq2]; exact V_b2, rfl⟩)) (by decide) (by decide)
theorem ef_rmF2 (m : MethodId) (x0 : Addr) : entryFrame m #[(.ref x0)] 3 = mkF m 0 #[.val (.ref x0), .unset, .unset] [] := by first | (simp [entryFrame, mkF, argsToLocals, Value.category]; done) | rfl
def Q_rmF2 (Z : State) (r0 : Addr) (b : Addr) (mz : Nat) (f : Nat → Value) (x0 : Int32) (x1 : Int32) (h0 : Heap) (n0 : Nat) (v : Option Value) (h : Heap) (L : List Loc) : Prop := v = some (.ref h0.size) ∧ Fr n0 L ∧ Keep h0 h [] ∧ ∃ g, own_Arf Z h h0.size .int (2 : Int32) g ∧ g 0 = .int x0 ∧ g 1 = .int x1
set_option maxRecDepth 65536 in
set_option maxHeartbeats 40000000 in
theorem rmF2 (l : Launch) (Z : State) (a0 : Array Value) (hw : ∀ d ∈ tables_1, d.before a0 Z = true) (ws : List Jvm.Cond) (r0 : Addr) (b : Addr) (mz : Nat) (f : Nat → Value) (x0 : Int32) (x1 : Int32) (h0 : Heap) (n0 : Nat) (Z0 : n0 ≤ h0.size) (F_size_r0 : Fld Z h0 r0 "com/example/surrogate/surrogate/index/Entries" "size" "I" (.int (2 : Int32))) (F_entries_r0 : Fld Z h0 r0 "com/example/surrogate/surrogate/index/Entries" "entries" "[I" (.ref b)) (V_b : own_Arf Z h0 b .int (Int32.ofNat mz) f) (ne_r0_b : r0 ≠ b) (hm : 4 ≤ mz) (hm12 : mz ≤ 12) (hf0 : f 1 = .int x0) (hf1 : f 3 = .int x1) :
    MetFree l (⟨"com/example/surrogate/surrogate/index/Entries", "frequencies", "()[I"⟩ : MethodName) (head1 (Jvm.Cond.code (⟨"com/example/surrogate/surrogate/index/Entries", "frequencies", "()[I"⟩ : MethodName) prog_20_method_8_code 3 (some (.array .int)) :: ws) ({ frames := 0, cells := 1, slots := 2, locals := 0 } : Room)) (fun a U => a = #[(.ref r0)] ∧ Z.Warmed39 U.vm ∧ U.heap = h0) (fun _ _ _ _ _ => True) (fun _ U o U' => ∃ v L, o = .returned v ∧ Q_rmF2 Z r0 b mz f x0 x1 h0 n0 v U'.heap L ∧ FrameEnd U o U' L ({ frames := 0, cells := 1, slots := 2, locals := 0 } : Room).cells ({ frames := 0, cells := 1, slots := 2, locals := 0 } : Room).slots) := by
  refine MetFree.of_bodySF (plainFor_of_name own_pn1) hisR ?_
  intro p e s m args below meth c s₁ Bd hml0 hP hK
  obtain ⟨rfl, hZ, hh⟩ := hP
  have hx := Bd.exec
  have hby := Bd.bytes
  have hml : c.maxLocals = 3 := hml0
  have hown : s.vm.findClass "com/example/surrogate/surrogate/index/Entries" = some m.cls := findClass_of_methodNamed Bd.named
  have hnm := (name_of_methodNamed Bd.named Bd.method).1
  have X0 : Stand p l e ({ frames := 0, cells := 1, slots := 2, locals := 0 } : Room) s m #[(.ref r0)] below meth c s₁ [] 0 0 := Stand.of_body Bd
  have e0 : s₁.heap = h0 := by rw [← hh, Bd.state]; rfl
  show own_Go p e below (s₁.setTop (entryFrame m #[(.ref r0)] 3)) (fun t o => ∃ v L, o = .returned v ∧ Q_rmF2 Z r0 b mz f x0 x1 h0 n0 v t.heap L ∧ FrameEnd s o t L ({ frames := 0, cells := 1, slots := 2, locals := 0 } : Room).cells ({ frames := 0, cells := 1, slots := 2, locals := 0 } : Room).slots)
  refine own_by (B := s₁.setTop (mkF m 0 #[.val (.ref r0), .unset, .unset] [])) (fun t k => castTop (ef_rmF2 m r0) k) ?_
  have Nf := Fr.nil n0
  have Zs := Z0
  have Kp := Keep.refl h0 []
  refine own_by (B := s₁.setTop (mkF m 1 #[.val (.ref r0), .unset, .unset] [(.ref r0)])) (fun t k => XS.aloadN X0.here hx rfl (hb hby d3_0) rfl rfl k) ?_
  obtain ⟨T1, X1, e1, st1⟩ := getF X0 hx hZ hown (host := "") (Or.inl (hw _ (List.mem_of_getElem? (i := 18) rfl))) Via.refl e0 F_size_r0 (g := (mkF m 1 #[.val (.ref r0), .unset, .unset] [(.ref r0)])) rfl rfl (hb hby d3_1)
  refine own_by (B := T1.setTop (mkF m 4 #[.val (.ref r0), .unset, .unset] [(.int (2 : Int32))])) st1 ?_
  obtain ⟨T2, h2, k2, X2, e2, E2, A2, st2⟩ := newP X1 hx hZ (hw _ (List.mem_of_getElem? (i := 10) rfl)) e1 (g := (mkF m 4 #[.val (.ref r0), .unset, .unset] [(.int (2 : Int32))])) rfl (hb hby d3_4) rfl (by decide) (cap := 2) (by decide) (by decide) (by decide) (by decide)
  obtain ⟨b2, gq2⟩ : ∃ z, z = h0.size := ⟨_, rfl⟩
  rw [← gq2] at A2 st2
  have ne_r0_b2 : r0 ≠ b2 := Nat.ne_of_lt (Nat.lt_of_lt_of_le F_size_r0.lt (Nat.le_of_eq gq2.symm))
  have ne_b_b2 : b ≠ b2 := Nat.ne_of_lt (Nat.lt_of_lt_of_le V_b.lt (Nat.le_of_eq gq2.symm))
  have g_b2 : n0 ≤ b2 := Nat.le_trans Zs (Nat.le_of_eq gq2.symm)
  have sz_b2 : h0.size ≤ b2 := Nat.le_trans Kp.1 (Nat.le_of_eq gq2.symm)
  have F_size_r0 := F_size_r0.ext E2
  have F_entries_r0 := F_entries_r0.ext E2
  have V_b := V_b.ext E2
  have Zs := Nat.le_trans Zs E2.1
  have Kp := Kp.ext E2
  have V_b2 := own_Arf.new A2 (by decide)
  refine own_by (B := T2.setTop (mkF m 6 #[.val (.ref r0), .unset, .unset] [(.ref b2)])) st2 ?_
  refine own_by (B := T2.setTop (mkF m 7 #[.val (.ref r0), .val (.ref b2), .unset] [])) (fun t k => XS.astoreN X2.here hx rfl (hb hby d3_6) rfl rfl (l' := #[.val (.ref r0), .val (.ref b2), .unset]) rfl k) ?_
  refine own_by (B := T2.setTop (mkF m 8 #[.val (.ref r0), .val (.ref b2), .unset] [(.int (0 : Int32))])) (fun t k => XS.iconst X2.here hx rfl (hb hby d3_7) k) ?_
  refine own_by (B := T2.setTop (mkF m 9 #[.val (.ref r0), .val (.ref b2), .val (.int (0 : Int32))] [])) (fun t k => XS.istoreN X2.here hx rfl (hb hby d3_8) rfl (l' := #[.val (.ref r0), .val (.ref b2), .val (.int (0 : Int32))]) rfl k) ?_
  refine own_by (B := T2.setTop (mkF m 10 #[.val (.ref r0), .val (.ref b2), .val (.int (0 : Int32))] [(.int (0 : Int32))])) (fun t k => XS.iloadN X2.here hx rfl (hb hby d3_9) rfl k) ?_
  refine own_by (B := T2.setTop (mkF m 11 #[.val (.ref r0), .val (.ref b2), .val (.int (0 : Int32))] [(.ref r0), (.int (0 : Int32))])) (fun t k => XS.aloadN X2.here hx rfl (hb hby d3_10) rfl rfl k) ?_
  obtain ⟨T3, X3, e3, st3⟩ := getF X2 hx hZ hown (host := "") (Or.inl (hw _ (List.mem_of_getElem? (i := 18) rfl))) Via.refl e2 F_size_r0 (g := (mkF m 11 #[.val (.ref r0), .val (.ref b2), .val (.int (0 : Int32))] [(.ref r0), (.int (0 : Int32))])) rfl rfl (hb hby d3_11)
  refine own_by (B := T3.setTop (mkF m 14 #[.val (.ref r0), .val (.ref b2), .val (.int (0 : Int32))] [(.int (2 : Int32)), (.int (0 : Int32))])) st3 ?_
  refine own_by (B := T3.setTop (mkF m 17 #[.val (.ref r0), .val (.ref b2), .val (.int (0 : Int32))] [])) (fun t k => XS.icmpNo X3.here hx rfl (hb hby d3_14) rfl (tlt (by decide)).2.1 k) ?_
  refine own_by (B := T3.setTop (mkF m 18 #[.val (.ref r0), .val (.ref b2), .val (.int (0 : Int32))] [(.ref b2)])) (fun t k => XS.aloadN X3.here hx rfl (hb hby d3_17) rfl rfl k) ?_
  refine own_by (B := T3.setTop (mkF m 19 #[.val (.ref r0), .val (.ref b2), .val (.int (0 : Int32))] [(.int (0 : Int32)), (.ref b2)])) (fun t k => XS.iloadN X3.here hx rfl (hb hby d3_18) rfl k) ?_
  refine own_by (B := T3.setTop (mkF m 20 #[.val (.ref r0), .val (.ref b2), .val (.int (0 : Int32))] [(.ref r0), (.int (0 : Int32)), (.ref b2)])) (fun t k => XS.aloadN X3.here hx rfl (hb hby d3_19) rfl rfl k) ?_
  obtain ⟨T4, X4, e4, st4⟩ := getF X3 hx hZ hown (host := "") (Or.inl (hw _ (List.mem_of_getElem? (i := 11) rfl))) Via.refl e3 F_entries_r0 (g := (mkF m 20 #[.val (.ref r0), .val (.ref b2), .val (.int (0 : Int32))] [(.ref r0), (.int (0 : Int32)), (.ref b2)])) rfl rfl (hb hby d3_20)
  refine own_by (B := T4.setTop (mkF m 23 #[.val (.ref r0), .val (.ref b2), .val (.int (0 : Int32))] [(.ref b), (.int (0 : Int32)), (.ref b2)])) st4 ?_
  refine own_by (B := T4.setTop (mkF m 24 #[.val (.ref r0), .val (.ref b2), .val (.int (0 : Int32))] [(.int (2 : Int32)), (.ref b), (.int (0 : Int32)), (.ref b2)])) (fun t k => XS.iconst X4.here hx rfl (hb hby d3_23) k) ?_
  refine own_by (B := T4.setTop (mkF m 25 #[.val (.ref r0), .val (.ref b2), .val (.int (0 : Int32))] [(.int (0 : Int32)), (.int (2 : Int32)), (.ref b), (.int (0 : Int32)), (.ref b2)])) (fun t k => XS.iloadN X4.here hx rfl (hb hby d3_24) rfl k) ?_
  refine own_by (B := T4.setTop (mkF m 26 #[.val (.ref r0), .val (.ref b2), .val (.int (0 : Int32))] [(.int (0 : Int32)), (.ref b), (.int (0 : Int32)), (.ref b2)])) (fun t k => XS.imul X4.here hx rfl (hb hby d3_25) rfl k) ?_
  refine own_by (B := T4.setTop (mkF m 27 #[.val (.ref r0), .val (.ref b2), .val (.int (0 : Int32))] [(.int (1 : Int32)), (.int (0 : Int32)), (.ref b), (.int (0 : Int32)), (.ref b2)])) (fun t k => XS.iconst X4.here hx rfl (hb hby d3_26) k) ?_
  refine own_by (B := T4.setTop (mkF m 28 #[.val (.ref r0), .val (.ref b2), .val (.int (0 : Int32))] [(.int (1 : Int32)), (.ref b), (.int (0 : Int32)), (.ref b2)])) (fun t k => XS.iadd X4.here hx rfl (hb hby d3_27) rfl k) ?_
  obtain ⟨cl5, Ar5, hin5, hat5⟩ := V_b.at (j := (1 : Int32)) (own_in (i := 1) (by omega) (by omega))
  have hat5 := hat5.trans (congrArg some (show _ = (.int x0) from hf0))
  refine own_by (B := T4.setTop (mkF m 29 #[.val (.ref r0), .val (.ref b2), .val (.int (0 : Int32))] [(.int x0), (.int (0 : Int32)), (.ref b2)])) (fun t k => X4.iaload hx (j := (1 : Int32)) (v := (.int x0)) (by rw [e4]; exact Ar5.1) (State.isArrayOf_alike hZ.alike Ar5.2.1) Ar5.2.2 hin5 hat5 (g := (mkF m 28 #[.val (.ref r0), .val (.ref b2), .val (.int (0 : Int32))] [(.int (1 : Int32)), (.ref b), (.int (0 : Int32)), (.ref b2)])) rfl rfl (hb hby d3_28) _ k) ?_
  obtain ⟨cl6, Ar6, hin6, -⟩ := V_b2.at (j := (0 : Int32)) ⟨by decide, by decide⟩
  obtain ⟨T6, h6, X6, e6, W6, st6⟩ := stI X4 hx hZ e4 Ar6 (j := (0 : Int32)) hin6 (g := (mkF m 29 #[.val (.ref r0), .val (.ref b2), .val (.int (0 : Int32))] [(.int x0), (.int (0 : Int32)), (.ref b2)])) rfl rfl (hb hby d3_29)
  have F_size_r0 := F_size_r0.other W6 (Or.inl ne_r0_b2)
  have F_entries_r0 := F_entries_r0.other W6 (Or.inl ne_r0_b2)
  have V_b := V_b.other W6 ne_b_b2
  have V_b2 := V_b2.set W6
  have Zs : n0 ≤ h6.size := by rw [W6.size]; exact Zs
  have Kp := Kp.wr W6 (Or.inr sz_b2)
  have Nf := Fr.snoc X6 Nf g_b2
  refine own_by (B := T6.setTop (mkF m 30 #[.val (.ref r0), .val (.ref b2), .val (.int (0 : Int32))] [])) st6 ?_
  refine own_by (B := T6.setTop (mkF m 33 #[.val (.ref r0), .val (.ref b2), .val (.int (1 : Int32))] [])) (fun t k => XS.iinc X6.here hx rfl (hb hby d3_30) rfl (l' := #[.val (.ref r0), .val (.ref b2), .val (.int (1 : Int32))]) rfl k) ?_
  refine own_by (B := T6.setTop (mkF m 9 #[.val (.ref r0), .val (.ref b2), .val (.int (1 : Int32))] [])) (fun t k => XS.goto X6.here hx rfl (pc0 := 33) (pc' := 9) rfl (hb hby d3_33) (by decide) (by decide) k) ?_
  refine own_by (B := T6.setTop (mkF m 10 #[.val (.ref r0), .val (.ref b2), .val (.int (1 : Int32))] [(.int (1 : Int32))])) (fun t k => XS.iloadN X6.here hx rfl (hb hby d3_9) rfl k) ?_
  refine own_by (B := T6.setTop (mkF m 11 #[.val (.ref r0), .val (.ref b2), .val (.int (1 : Int32))] [(.ref r0), (.int (1 : Int32))])) (fun t k => XS.aloadN X6.here hx rfl (hb hby d3_10) rfl rfl k) ?_
  obtain ⟨T7, X7, e7, st7⟩ := getF X6 hx hZ hown (host := "") (Or.inl (hw _ (List.mem_of_getElem? (i := 18) rfl))) Via.refl e6 F_size_r0 (g := (mkF m 11 #[.val (.ref r0), .val (.ref b2), .val (.int (1 : Int32))] [(.ref r0), (.int (1 : Int32))])) rfl rfl (hb hby d3_11)
  refine own_by (B := T7.setTop (mkF m 14 #[.val (.ref r0), .val (.ref b2), .val (.int (1 : Int32))] [(.int (2 : Int32)), (.int (1 : Int32))])) st7 ?_
  refine own_by (B := T7.setTop (mkF m 17 #[.val (.ref r0), .val (.ref b2), .val (.int (1 : Int32))] [])) (fun t k => XS.icmpNo X7.here hx rfl (hb hby d3_14) rfl (tlt (by decide)).2.1 k) ?_
  refine own_by (B := T7.setTop (mkF m 18 #[.val (.ref r0), .val (.ref b2), .val (.int (1 : Int32))] [(.ref b2)])) (fun t k => XS.aloadN X7.here hx rfl (hb hby d3_17) rfl rfl k) ?_
  refine own_by (B := T7.setTop (mkF m 19 #[.val (.ref r0), .val (.ref b2), .val (.int (1 : Int32))] [(.int (1 : Int32)), (.ref b2)])) (fun t k => XS.iloadN X7.here hx rfl (hb hby d3_18) rfl k) ?_
  refine own_by (B := T7.setTop (mkF m 20 #[.val (.ref r0), .val (.ref b2), .val (.int (1 : Int32))] [(.ref r0), (.int (1 : Int32)), (.ref b2)])) (fun t k => XS.aloadN X7.here hx rfl (hb hby d3_19) rfl rfl k) ?_
  obtain ⟨T8, X8, e8, st8⟩ := getF X7 hx hZ hown (host := "") (Or.inl (hw _ (List.mem_of_getElem? (i := 11) rfl))) Via.refl e7 F_entries_r0 (g := (mkF m 20 #[.val (.ref r0), .val (.ref b2), .val (.int (1 : Int32))] [(.ref r0), (.int (1 : Int32)), (.ref b2)])) rfl rfl (hb hby d3_20)
  refine own_by (B := T8.setTop (mkF m 23 #[.val (.ref r0), .val (.ref b2), .val (.int (1 : Int32))] [(.ref b), (.int (1 : Int32)), (.ref b2)])) st8 ?_
  refine own_by (B := T8.setTop (mkF m 24 #[.val (.ref r0), .val (.ref b2), .val (.int (1 : Int32))] [(.int (2 : Int32)), (.ref b), (.int (1 : Int32)), (.ref b2)])) (fun t k => XS.iconst X8.here hx rfl (hb hby d3_23) k) ?_
  refine own_by (B := T8.setTop (mkF m 25 #[.val (.ref r0), .val (.ref b2), .val (.int (1 : Int32))] [(.int (1 : Int32)), (.int (2 : Int32)), (.ref b), (.int (1 : Int32)), (.ref b2)])) (fun t k => XS.iloadN X8.here hx rfl (hb hby d3_24) rfl k) ?_
  refine own_by (B := T8.setTop (mkF m 26 #[.val (.ref r0), .val (.ref b2), .val (.int (1 : Int32))] [(.int (2 : Int32)), (.ref b), (.int (1 : Int32)), (.ref b2)])) (fun t k => XS.imul X8.here hx rfl (hb hby d3_25) rfl k) ?_
  refine own_by (B := T8.setTop (mkF m 27 #[.val (.ref r0), .val (.ref b2), .val (.int (1 : Int32))] [(.int (1 : Int32)), (.int (2 : Int32)), (.ref b), (.int (1 : Int32)), (.ref b2)])) (fun t k => XS.iconst X8.here hx rfl (hb hby d3_26) k) ?_
  refine own_by (B := T8.setTop (mkF m 28 #[.val (.ref r0), .val (.ref b2), .val (.int (1 : Int32))] [(.int (3 : Int32)), (.ref b), (.int (1 : Int32)), (.ref b2)])) (fun t k => XS.iadd X8.here hx rfl (hb hby d3_27) rfl k) ?_
  obtain ⟨cl9, Ar9, hin9, hat9⟩ := V_b.at (j := (3 : Int32)) (own_in (i := 3) (by omega) (by omega))
  have hat9 := hat9.trans (congrArg some (show _ = (.int x1) from hf1))
  refine own_by (B := T8.setTop (mkF m 29 #[.val (.ref r0), .val (.ref b2), .val (.int (1 : Int32))] [(.int x1), (.int (1 : Int32)), (.ref b2)])) (fun t k => X8.iaload hx (j := (3 : Int32)) (v := (.int x1)) (by rw [e8]; exact Ar9.1) (State.isArrayOf_alike hZ.alike Ar9.2.1) Ar9.2.2 hin9 hat9 (g := (mkF m 28 #[.val (.ref r0), .val (.ref b2), .val (.int (1 : Int32))] [(.int (3 : Int32)), (.ref b), (.int (1 : Int32)), (.ref b2)])) rfl rfl (hb hby d3_28) _ k) ?_
  obtain ⟨cl10, Ar10, hin10, -⟩ := V_b2.at (j := (1 : Int32)) ⟨by decide, by decide⟩
  obtain ⟨T10, h10, X10, e10, W10, st10⟩ := stI X8 hx hZ e8 Ar10 (j := (1 : Int32)) hin10 (g := (mkF m 29 #[.val (.ref r0), .val (.ref b2), .val (.int (1 : Int32))] [(.int x1), (.int (1 : Int32)), (.ref b2)])) rfl rfl (hb hby d3_29)
  have F_size_r0 := F_size_r0.other W10 (Or.inl ne_r0_b2)
  have F_entries_r0 := F_entries_r0.other W10 (Or.inl ne_r0_b2)
  have V_b := V_b.other W10 ne_b_b2
  have V_b2 := V_b2.set W10
  have Zs : n0 ≤ h10.size := by rw [W10.size]; exact Zs
  have Kp := Kp.wr W10 (Or.inr sz_b2)
  have Nf := Fr.snoc X10 Nf g_b2
  refine own_by (B := T10.setTop (mkF m 30 #[.val (.ref r0), .val (.ref b2), .val (.int (1 : Int32))] [])) st10 ?_
  refine own_by (B := T10.setTop (mkF m 33 #[.val (.ref r0), .val (.ref b2), .val (.int (2 : Int32))] [])) (fun t k => XS.iinc X10.here hx rfl (hb hby d3_30) rfl (l' := #[.val (.ref r0), .val (.ref b2), .val (.int (2 : Int32))]) rfl k) ?_
  refine own_by (B := T10.setTop (mkF m 9 #[.val (.ref r0), .val (.ref b2), .val (.int (2 : Int32))] [])) (fun t k => XS.goto X10.here hx rfl (pc0 := 33) (pc' := 9) rfl (hb hby d3_33) (by decide) (by decide) k) ?_
  refine own_by (B := T10.setTop (mkF m 10 #[.val (.ref r0), .val (.ref b2), .val (.int (2 : Int32))] [(.int (2 : Int32))])) (fun t k => XS.iloadN X10.here hx rfl (hb hby d3_9) rfl k) ?_
  refine own_by (B := T10.setTop (mkF m 11 #[.val (.ref r0), .val (.ref b2), .val (.int (2 : Int32))] [(.ref r0), (.int (2 : Int32))])) (fun t k => XS.aloadN X10.here hx rfl (hb hby d3_10) rfl rfl k) ?_
  obtain ⟨T11, X11, e11, st11⟩ := getF X10 hx hZ hown (host := "") (Or.inl (hw _ (List.mem_of_getElem? (i := 18) rfl))) Via.refl e10 F_size_r0 (g := (mkF m 11 #[.val (.ref r0), .val (.ref b2), .val (.int (2 : Int32))] [(.ref r0), (.int (2 : Int32))])) rfl rfl (hb hby d3_11)
  refine own_by (B := T11.setTop (mkF m 14 #[.val (.ref r0), .val (.ref b2), .val (.int (2 : Int32))] [(.int (2 : Int32)), (.int (2 : Int32))])) st11 ?_
  refine own_by (B := T11.setTop (mkF m 36 #[.val (.ref r0), .val (.ref b2), .val (.int (2 : Int32))] [])) (fun t k => XS.icmpYes X11.here hx rfl (pc0 := 14) (pc' := 36) rfl (hb hby d3_14) rfl (flt (by decide)).2.1 (by decide) (by decide) k) ?_
  refine own_by (B := T11.setTop (mkF m 37 #[.val (.ref r0), .val (.ref b2), .val (.int (2 : Int32))] [(.ref b2)])) (fun t k => XS.aloadN X11.here hx rfl (hb hby d3_36) rfl rfl k) ?_
  exact own_end X11 (v := some (.ref b2)) (fun h => by rw [Bd.returns] at h; cases h) (BodyLoose.notSynchronized Bd) (Q := (Q_rmF2 Z r0 b mz f x0 x1 h0 n0)) (fun fs hr => retOut X11 hx (t := (.array .int)) Bd.returns rfl (Or.inr (Or.inr (Or.inr (Or.inr ⟨rfl, rfl, rfl⟩)))) (hb hby d3_37) hr) (show (Q_rmF2 Z r0 b mz f x0 x1 h0 n0) _ T11.heap _ from (by rw [e11]; exact ⟨by rw [gq2], Nf, Kp, _, by rw [← gq2]; exact V_b2, rfl, rfl⟩)) (by decide) (by decide)
theorem ef_rmF3 (m : MethodId) (x0 : Addr) : entryFrame m #[(.ref x0)] 3 = mkF m 0 #[.val (.ref x0), .unset, .unset] [] := by first | (simp [entryFrame, mkF, argsToLocals, Value.category]; done) | rfl
def Q_rmF3 (Z : State) (r0 : Addr) (b : Addr) (mz : Nat) (f : Nat → Value) (x0 : Int32) (x1 : Int32) (x2 : Int32) (h0 : Heap) (n0 : Nat) (v : Option Value) (h : Heap) (L : List Loc) : Prop := v = some (.ref h0.size) ∧ Fr n0 L ∧ Keep h0 h [] ∧ ∃ g, own_Arf Z h h0.size .int (3 : Int32) g ∧ g 0 = .int x0 ∧ g 1 = .int x1 ∧ g 2 = .int x2
set_option maxRecDepth 65536 in
set_option maxHeartbeats 40000000 in
theorem rmF3 (l : Launch) (Z : State) (a0 : Array Value) (hw : ∀ d ∈ tables_1, d.before a0 Z = true) (ws : List Jvm.Cond) (r0 : Addr) (b : Addr) (mz : Nat) (f : Nat → Value) (x0 : Int32) (x1 : Int32) (x2 : Int32) (h0 : Heap) (n0 : Nat) (Z0 : n0 ≤ h0.size) (F_size_r0 : Fld Z h0 r0 "com/example/surrogate/surrogate/index/Entries" "size" "I" (.int (3 : Int32))) (F_entries_r0 : Fld Z h0 r0 "com/example/surrogate/surrogate/index/Entries" "entries" "[I" (.ref b)) (V_b : own_Arf Z h0 b .int (Int32.ofNat mz) f) (ne_r0_b : r0 ≠ b) (hm : 6 ≤ mz) (hm12 : mz ≤ 12) (hf0 : f 1 = .int x0) (hf1 : f 3 = .int x1) (hf2 : f 5 = .int x2) :
    MetFree l (⟨"com/example/surrogate/surrogate/index/Entries", "frequencies", "()[I"⟩ : MethodName) (head1 (Jvm.Cond.code (⟨"com/example/surrogate/surrogate/index/Entries", "frequencies", "()[I"⟩ : MethodName) prog_20_method_8_code 3 (some (.array .int)) :: ws) ({ frames := 0, cells := 1, slots := 3, locals := 0 } : Room)) (fun a U => a = #[(.ref r0)] ∧ Z.Warmed39 U.vm ∧ U.heap = h0) (fun _ _ _ _ _ => True) (fun _ U o U' => ∃ v L, o = .returned v ∧ Q_rmF3 Z r0 b mz f x0 x1 x2 h0 n0 v U'.heap L ∧ FrameEnd U o U' L ({ frames := 0, cells := 1, slots := 3, locals := 0 } : Room).cells ({ frames := 0, cells := 1, slots := 3, locals := 0 } : Room).slots) := by
  refine MetFree.of_bodySF (plainFor_of_name own_pn1) hisR ?_
  intro p e s m args below meth c s₁ Bd hml0 hP hK
  obtain ⟨rfl, hZ, hh⟩ := hP
  have hx := Bd.exec
  have hby := Bd.bytes
  have hml : c.maxLocals = 3 := hml0
  have hown : s.vm.findClass "com/example/surrogate/surrogate/index/Entries" = some m.cls := findClass_of_methodNamed Bd.named
  have hnm := (name_of_methodNamed Bd.named Bd.method).1
  have X0 : Stand p l e ({ frames := 0, cells := 1, slots := 3, locals := 0 } : Room) s m #[(.ref r0)] below meth c s₁ [] 0 0 := Stand.of_body Bd
  have e0 : s₁.heap = h0 := by rw [← hh, Bd.state]; rfl
  show own_Go p e below (s₁.setTop (entryFrame m #[(.ref r0)] 3)) (fun t o => ∃ v L, o = .returned v ∧ Q_rmF3 Z r0 b mz f x0 x1 x2 h0 n0 v t.heap L ∧ FrameEnd s o t L ({ frames := 0, cells := 1, slots := 3, locals := 0 } : Room).cells ({ frames := 0, cells := 1, slots := 3, locals := 0 } : Room).slots)
  refine own_by (B := s₁.setTop (mkF m 0 #[.val (.ref r0), .unset, .unset] [])) (fun t k => castTop (ef_rmF3 m r0) k) ?_
  have Nf := Fr.nil n0
  have Zs := Z0
  have Kp := Keep.refl h0 []
  refine own_by (B := s₁.setTop (mkF m 1 #[.val (.ref r0), .unset, .unset] [(.ref r0)])) (fun t k => XS.aloadN X0.here hx rfl (hb hby d3_0) rfl rfl k) ?_
  obtain ⟨T1, X1, e1, st1⟩ := getF X0 hx hZ hown (host := "") (Or.inl (hw _ (List.mem_of_getElem? (i := 18) rfl))) Via.refl e0 F_size_r0 (g := (mkF m 1 #[.val (.ref r0), .unset, .unset] [(.ref r0)])) rfl rfl (hb hby d3_1)
  refine own_by (B := T1.setTop (mkF m 4 #[.val (.ref r0), .unset, .unset] [(.int (3 : Int32))])) st1 ?_
  obtain ⟨T2, h2, k2, X2, e2, E2, A2, st2⟩ := newP X1 hx hZ (hw _ (List.mem_of_getElem? (i := 10) rfl)) e1 (g := (mkF m 4 #[.val (.ref r0), .unset, .unset] [(.int (3 : Int32))])) rfl (hb hby d3_4) rfl (by decide) (cap := 3) (by decide) (by decide) (by decide) (by decide)
  obtain ⟨b2, gq2⟩ : ∃ z, z = h0.size := ⟨_, rfl⟩
  rw [← gq2] at A2 st2
  have ne_r0_b2 : r0 ≠ b2 := Nat.ne_of_lt (Nat.lt_of_lt_of_le F_size_r0.lt (Nat.le_of_eq gq2.symm))
  have ne_b_b2 : b ≠ b2 := Nat.ne_of_lt (Nat.lt_of_lt_of_le V_b.lt (Nat.le_of_eq gq2.symm))
  have g_b2 : n0 ≤ b2 := Nat.le_trans Zs (Nat.le_of_eq gq2.symm)
  have sz_b2 : h0.size ≤ b2 := Nat.le_trans Kp.1 (Nat.le_of_eq gq2.symm)
  have F_size_r0 := F_size_r0.ext E2
  have F_entries_r0 := F_entries_r0.ext E2
  have V_b := V_b.ext E2
  have Zs := Nat.le_trans Zs E2.1
  have Kp := Kp.ext E2
  have V_b2 := own_Arf.new A2 (by decide)
  refine own_by (B := T2.setTop (mkF m 6 #[.val (.ref r0), .unset, .unset] [(.ref b2)])) st2 ?_
  refine own_by (B := T2.setTop (mkF m 7 #[.val (.ref r0), .val (.ref b2), .unset] [])) (fun t k => XS.astoreN X2.here hx rfl (hb hby d3_6) rfl rfl (l' := #[.val (.ref r0), .val (.ref b2), .unset]) rfl k) ?_
  refine own_by (B := T2.setTop (mkF m 8 #[.val (.ref r0), .val (.ref b2), .unset] [(.int (0 : Int32))])) (fun t k => XS.iconst X2.here hx rfl (hb hby d3_7) k) ?_
  refine own_by (B := T2.setTop (mkF m 9 #[.val (.ref r0), .val (.ref b2), .val (.int (0 : Int32))] [])) (fun t k => XS.istoreN X2.here hx rfl (hb hby d3_8) rfl (l' := #[.val (.ref r0), .val (.ref b2), .val (.int (0 : Int32))]) rfl k) ?_
  refine own_by (B := T2.setTop (mkF m 10 #[.val (.ref r0), .val (.ref b2), .val (.int (0 : Int32))] [(.int (0 : Int32))])) (fun t k => XS.iloadN X2.here hx rfl (hb hby d3_9) rfl k) ?_
  refine own_by (B := T2.setTop (mkF m 11 #[.val (.ref r0), .val (.ref b2), .val (.int (0 : Int32))] [(.ref r0), (.int (0 : Int32))])) (fun t k => XS.aloadN X2.here hx rfl (hb hby d3_10) rfl rfl k) ?_
  obtain ⟨T3, X3, e3, st3⟩ := getF X2 hx hZ hown (host := "") (Or.inl (hw _ (List.mem_of_getElem? (i := 18) rfl))) Via.refl e2 F_size_r0 (g := (mkF m 11 #[.val (.ref r0), .val (.ref b2), .val (.int (0 : Int32))] [(.ref r0), (.int (0 : Int32))])) rfl rfl (hb hby d3_11)
  refine own_by (B := T3.setTop (mkF m 14 #[.val (.ref r0), .val (.ref b2), .val (.int (0 : Int32))] [(.int (3 : Int32)), (.int (0 : Int32))])) st3 ?_
  refine own_by (B := T3.setTop (mkF m 17 #[.val (.ref r0), .val (.ref b2), .val (.int (0 : Int32))] [])) (fun t k => XS.icmpNo X3.here hx rfl (hb hby d3_14) rfl (tlt (by decide)).2.1 k) ?_
  refine own_by (B := T3.setTop (mkF m 18 #[.val (.ref r0), .val (.ref b2), .val (.int (0 : Int32))] [(.ref b2)])) (fun t k => XS.aloadN X3.here hx rfl (hb hby d3_17) rfl rfl k) ?_
  refine own_by (B := T3.setTop (mkF m 19 #[.val (.ref r0), .val (.ref b2), .val (.int (0 : Int32))] [(.int (0 : Int32)), (.ref b2)])) (fun t k => XS.iloadN X3.here hx rfl (hb hby d3_18) rfl k) ?_
  refine own_by (B := T3.setTop (mkF m 20 #[.val (.ref r0), .val (.ref b2), .val (.int (0 : Int32))] [(.ref r0), (.int (0 : Int32)), (.ref b2)])) (fun t k => XS.aloadN X3.here hx rfl (hb hby d3_19) rfl rfl k) ?_
  obtain ⟨T4, X4, e4, st4⟩ := getF X3 hx hZ hown (host := "") (Or.inl (hw _ (List.mem_of_getElem? (i := 11) rfl))) Via.refl e3 F_entries_r0 (g := (mkF m 20 #[.val (.ref r0), .val (.ref b2), .val (.int (0 : Int32))] [(.ref r0), (.int (0 : Int32)), (.ref b2)])) rfl rfl (hb hby d3_20)
  refine own_by (B := T4.setTop (mkF m 23 #[.val (.ref r0), .val (.ref b2), .val (.int (0 : Int32))] [(.ref b), (.int (0 : Int32)), (.ref b2)])) st4 ?_
  refine own_by (B := T4.setTop (mkF m 24 #[.val (.ref r0), .val (.ref b2), .val (.int (0 : Int32))] [(.int (2 : Int32)), (.ref b), (.int (0 : Int32)), (.ref b2)])) (fun t k => XS.iconst X4.here hx rfl (hb hby d3_23) k) ?_
  refine own_by (B := T4.setTop (mkF m 25 #[.val (.ref r0), .val (.ref b2), .val (.int (0 : Int32))] [(.int (0 : Int32)), (.int (2 : Int32)), (.ref b), (.int (0 : Int32)), (.ref b2)])) (fun t k => XS.iloadN X4.here hx rfl (hb hby d3_24) rfl k) ?_
  refine own_by (B := T4.setTop (mkF m 26 #[.val (.ref r0), .val (.ref b2), .val (.int (0 : Int32))] [(.int (0 : Int32)), (.ref b), (.int (0 : Int32)), (.ref b2)])) (fun t k => XS.imul X4.here hx rfl (hb hby d3_25) rfl k) ?_
  refine own_by (B := T4.setTop (mkF m 27 #[.val (.ref r0), .val (.ref b2), .val (.int (0 : Int32))] [(.int (1 : Int32)), (.int (0 : Int32)), (.ref b), (.int (0 : Int32)), (.ref b2)])) (fun t k => XS.iconst X4.here hx rfl (hb hby d3_26) k) ?_
  refine own_by (B := T4.setTop (mkF m 28 #[.val (.ref r0), .val (.ref b2), .val (.int (0 : Int32))] [(.int (1 : Int32)), (.ref b), (.int (0 : Int32)), (.ref b2)])) (fun t k => XS.iadd X4.here hx rfl (hb hby d3_27) rfl k) ?_
  obtain ⟨cl5, Ar5, hin5, hat5⟩ := V_b.at (j := (1 : Int32)) (own_in (i := 1) (by omega) (by omega))
  have hat5 := hat5.trans (congrArg some (show _ = (.int x0) from hf0))
  refine own_by (B := T4.setTop (mkF m 29 #[.val (.ref r0), .val (.ref b2), .val (.int (0 : Int32))] [(.int x0), (.int (0 : Int32)), (.ref b2)])) (fun t k => X4.iaload hx (j := (1 : Int32)) (v := (.int x0)) (by rw [e4]; exact Ar5.1) (State.isArrayOf_alike hZ.alike Ar5.2.1) Ar5.2.2 hin5 hat5 (g := (mkF m 28 #[.val (.ref r0), .val (.ref b2), .val (.int (0 : Int32))] [(.int (1 : Int32)), (.ref b), (.int (0 : Int32)), (.ref b2)])) rfl rfl (hb hby d3_28) _ k) ?_
  obtain ⟨cl6, Ar6, hin6, -⟩ := V_b2.at (j := (0 : Int32)) ⟨by decide, by decide⟩
  obtain ⟨T6, h6, X6, e6, W6, st6⟩ := stI X4 hx hZ e4 Ar6 (j := (0 : Int32)) hin6 (g := (mkF m 29 #[.val (.ref r0), .val (.ref b2), .val (.int (0 : Int32))] [(.int x0), (.int (0 : Int32)), (.ref b2)])) rfl rfl (hb hby d3_29)
  have F_size_r0 := F_size_r0.other W6 (Or.inl ne_r0_b2)
  have F_entries_r0 := F_entries_r0.other W6 (Or.inl ne_r0_b2)
  have V_b := V_b.other W6 ne_b_b2
  have V_b2 := V_b2.set W6
  have Zs : n0 ≤ h6.size := by rw [W6.size]; exact Zs
  have Kp := Kp.wr W6 (Or.inr sz_b2)
  have Nf := Fr.snoc X6 Nf g_b2
  refine own_by (B := T6.setTop (mkF m 30 #[.val (.ref r0), .val (.ref b2), .val (.int (0 : Int32))] [])) st6 ?_
  refine own_by (B := T6.setTop (mkF m 33 #[.val (.ref r0), .val (.ref b2), .val (.int (1 : Int32))] [])) (fun t k => XS.iinc X6.here hx rfl (hb hby d3_30) rfl (l' := #[.val (.ref r0), .val (.ref b2), .val (.int (1 : Int32))]) rfl k) ?_
  refine own_by (B := T6.setTop (mkF m 9 #[.val (.ref r0), .val (.ref b2), .val (.int (1 : Int32))] [])) (fun t k => XS.goto X6.here hx rfl (pc0 := 33) (pc' := 9) rfl (hb hby d3_33) (by decide) (by decide) k) ?_
  refine own_by (B := T6.setTop (mkF m 10 #[.val (.ref r0), .val (.ref b2), .val (.int (1 : Int32))] [(.int (1 : Int32))])) (fun t k => XS.iloadN X6.here hx rfl (hb hby d3_9) rfl k) ?_
  refine own_by (B := T6.setTop (mkF m 11 #[.val (.ref r0), .val (.ref b2), .val (.int (1 : Int32))] [(.ref r0), (.int (1 : Int32))])) (fun t k => XS.aloadN X6.here hx rfl (hb hby d3_10) rfl rfl k) ?_
  obtain ⟨T7, X7, e7, st7⟩ := getF X6 hx hZ hown (host := "") (Or.inl (hw _ (List.mem_of_getElem? (i := 18) rfl))) Via.refl e6 F_size_r0 (g := (mkF m 11 #[.val (.ref r0), .val (.ref b2), .val (.int (1 : Int32))] [(.ref r0), (.int (1 : Int32))])) rfl rfl (hb hby d3_11)
  refine own_by (B := T7.setTop (mkF m 14 #[.val (.ref r0), .val (.ref b2), .val (.int (1 : Int32))] [(.int (3 : Int32)), (.int (1 : Int32))])) st7 ?_
  refine own_by (B := T7.setTop (mkF m 17 #[.val (.ref r0), .val (.ref b2), .val (.int (1 : Int32))] [])) (fun t k => XS.icmpNo X7.here hx rfl (hb hby d3_14) rfl (tlt (by decide)).2.1 k) ?_
  refine own_by (B := T7.setTop (mkF m 18 #[.val (.ref r0), .val (.ref b2), .val (.int (1 : Int32))] [(.ref b2)])) (fun t k => XS.aloadN X7.here hx rfl (hb hby d3_17) rfl rfl k) ?_
  refine own_by (B := T7.setTop (mkF m 19 #[.val (.ref r0), .val (.ref b2), .val (.int (1 : Int32))] [(.int (1 : Int32)), (.ref b2)])) (fun t k => XS.iloadN X7.here hx rfl (hb hby d3_18) rfl k) ?_
  refine own_by (B := T7.setTop (mkF m 20 #[.val (.ref r0), .val (.ref b2), .val (.int (1 : Int32))] [(.ref r0), (.int (1 : Int32)), (.ref b2)])) (fun t k => XS.aloadN X7.here hx rfl (hb hby d3_19) rfl rfl k) ?_
  obtain ⟨T8, X8, e8, st8⟩ := getF X7 hx hZ hown (host := "") (Or.inl (hw _ (List.mem_of_getElem? (i := 11) rfl))) Via.refl e7 F_entries_r0 (g := (mkF m 20 #[.val (.ref r0), .val (.ref b2), .val (.int (1 : Int32))] [(.ref r0), (.int (1 : Int32)), (.ref b2)])) rfl rfl (hb hby d3_20)
  refine own_by (B := T8.setTop (mkF m 23 #[.val (.ref r0), .val (.ref b2), .val (.int (1 : Int32))] [(.ref b), (.int (1 : Int32)), (.ref b2)])) st8 ?_
  refine own_by (B := T8.setTop (mkF m 24 #[.val (.ref r0), .val (.ref b2), .val (.int (1 : Int32))] [(.int (2 : Int32)), (.ref b), (.int (1 : Int32)), (.ref b2)])) (fun t k => XS.iconst X8.here hx rfl (hb hby d3_23) k) ?_
  refine own_by (B := T8.setTop (mkF m 25 #[.val (.ref r0), .val (.ref b2), .val (.int (1 : Int32))] [(.int (1 : Int32)), (.int (2 : Int32)), (.ref b), (.int (1 : Int32)), (.ref b2)])) (fun t k => XS.iloadN X8.here hx rfl (hb hby d3_24) rfl k) ?_
  refine own_by (B := T8.setTop (mkF m 26 #[.val (.ref r0), .val (.ref b2), .val (.int (1 : Int32))] [(.int (2 : Int32)), (.ref b), (.int (1 : Int32)), (.ref b2)])) (fun t k => XS.imul X8.here hx rfl (hb hby d3_25) rfl k) ?_
  refine own_by (B := T8.setTop (mkF m 27 #[.val (.ref r0), .val (.ref b2), .val (.int (1 : Int32))] [(.int (1 : Int32)), (.int (2 : Int32)), (.ref b), (.int (1 : Int32)), (.ref b2)])) (fun t k => XS.iconst X8.here hx rfl (hb hby d3_26) k) ?_
  refine own_by (B := T8.setTop (mkF m 28 #[.val (.ref r0), .val (.ref b2), .val (.int (1 : Int32))] [(.int (3 : Int32)), (.ref b), (.int (1 : Int32)), (.ref b2)])) (fun t k => XS.iadd X8.here hx rfl (hb hby d3_27) rfl k) ?_
  obtain ⟨cl9, Ar9, hin9, hat9⟩ := V_b.at (j := (3 : Int32)) (own_in (i := 3) (by omega) (by omega))
  have hat9 := hat9.trans (congrArg some (show _ = (.int x1) from hf1))
  refine own_by (B := T8.setTop (mkF m 29 #[.val (.ref r0), .val (.ref b2), .val (.int (1 : Int32))] [(.int x1), (.int (1 : Int32)), (.ref b2)])) (fun t k => X8.iaload hx (j := (3 : Int32)) (v := (.int x1)) (by rw [e8]; exact Ar9.1) (State.isArrayOf_alike hZ.alike Ar9.2.1) Ar9.2.2 hin9 hat9 (g := (mkF m 28 #[.val (.ref r0), .val (.ref b2), .val (.int (1 : Int32))] [(.int (3 : Int32)), (.ref b), (.int (1 : Int32)), (.ref b2)])) rfl rfl (hb hby d3_28) _ k) ?_
  obtain ⟨cl10, Ar10, hin10, -⟩ := V_b2.at (j := (1 : Int32)) ⟨by decide, by decide⟩
  obtain ⟨T10, h10, X10, e10, W10, st10⟩ := stI X8 hx hZ e8 Ar10 (j := (1 : Int32)) hin10 (g := (mkF m 29 #[.val (.ref r0), .val (.ref b2), .val (.int (1 : Int32))] [(.int x1), (.int (1 : Int32)), (.ref b2)])) rfl rfl (hb hby d3_29)
  have F_size_r0 := F_size_r0.other W10 (Or.inl ne_r0_b2)
  have F_entries_r0 := F_entries_r0.other W10 (Or.inl ne_r0_b2)
  have V_b := V_b.other W10 ne_b_b2
  have V_b2 := V_b2.set W10
  have Zs : n0 ≤ h10.size := by rw [W10.size]; exact Zs
  have Kp := Kp.wr W10 (Or.inr sz_b2)
  have Nf := Fr.snoc X10 Nf g_b2
  refine own_by (B := T10.setTop (mkF m 30 #[.val (.ref r0), .val (.ref b2), .val (.int (1 : Int32))] [])) st10 ?_
  refine own_by (B := T10.setTop (mkF m 33 #[.val (.ref r0), .val (.ref b2), .val (.int (2 : Int32))] [])) (fun t k => XS.iinc X10.here hx rfl (hb hby d3_30) rfl (l' := #[.val (.ref r0), .val (.ref b2), .val (.int (2 : Int32))]) rfl k) ?_
  refine own_by (B := T10.setTop (mkF m 9 #[.val (.ref r0), .val (.ref b2), .val (.int (2 : Int32))] [])) (fun t k => XS.goto X10.here hx rfl (pc0 := 33) (pc' := 9) rfl (hb hby d3_33) (by decide) (by decide) k) ?_
  refine own_by (B := T10.setTop (mkF m 10 #[.val (.ref r0), .val (.ref b2), .val (.int (2 : Int32))] [(.int (2 : Int32))])) (fun t k => XS.iloadN X10.here hx rfl (hb hby d3_9) rfl k) ?_
  refine own_by (B := T10.setTop (mkF m 11 #[.val (.ref r0), .val (.ref b2), .val (.int (2 : Int32))] [(.ref r0), (.int (2 : Int32))])) (fun t k => XS.aloadN X10.here hx rfl (hb hby d3_10) rfl rfl k) ?_
  obtain ⟨T11, X11, e11, st11⟩ := getF X10 hx hZ hown (host := "") (Or.inl (hw _ (List.mem_of_getElem? (i := 18) rfl))) Via.refl e10 F_size_r0 (g := (mkF m 11 #[.val (.ref r0), .val (.ref b2), .val (.int (2 : Int32))] [(.ref r0), (.int (2 : Int32))])) rfl rfl (hb hby d3_11)
  refine own_by (B := T11.setTop (mkF m 14 #[.val (.ref r0), .val (.ref b2), .val (.int (2 : Int32))] [(.int (3 : Int32)), (.int (2 : Int32))])) st11 ?_
  refine own_by (B := T11.setTop (mkF m 17 #[.val (.ref r0), .val (.ref b2), .val (.int (2 : Int32))] [])) (fun t k => XS.icmpNo X11.here hx rfl (hb hby d3_14) rfl (tlt (by decide)).2.1 k) ?_
  refine own_by (B := T11.setTop (mkF m 18 #[.val (.ref r0), .val (.ref b2), .val (.int (2 : Int32))] [(.ref b2)])) (fun t k => XS.aloadN X11.here hx rfl (hb hby d3_17) rfl rfl k) ?_
  refine own_by (B := T11.setTop (mkF m 19 #[.val (.ref r0), .val (.ref b2), .val (.int (2 : Int32))] [(.int (2 : Int32)), (.ref b2)])) (fun t k => XS.iloadN X11.here hx rfl (hb hby d3_18) rfl k) ?_
  refine own_by (B := T11.setTop (mkF m 20 #[.val (.ref r0), .val (.ref b2), .val (.int (2 : Int32))] [(.ref r0), (.int (2 : Int32)), (.ref b2)])) (fun t k => XS.aloadN X11.here hx rfl (hb hby d3_19) rfl rfl k) ?_
  obtain ⟨T12, X12, e12, st12⟩ := getF X11 hx hZ hown (host := "") (Or.inl (hw _ (List.mem_of_getElem? (i := 11) rfl))) Via.refl e11 F_entries_r0 (g := (mkF m 20 #[.val (.ref r0), .val (.ref b2), .val (.int (2 : Int32))] [(.ref r0), (.int (2 : Int32)), (.ref b2)])) rfl rfl (hb hby d3_20)
  refine own_by (B := T12.setTop (mkF m 23 #[.val (.ref r0), .val (.ref b2), .val (.int (2 : Int32))] [(.ref b), (.int (2 : Int32)), (.ref b2)])) st12 ?_
  refine own_by (B := T12.setTop (mkF m 24 #[.val (.ref r0), .val (.ref b2), .val (.int (2 : Int32))] [(.int (2 : Int32)), (.ref b), (.int (2 : Int32)), (.ref b2)])) (fun t k => XS.iconst X12.here hx rfl (hb hby d3_23) k) ?_
  refine own_by (B := T12.setTop (mkF m 25 #[.val (.ref r0), .val (.ref b2), .val (.int (2 : Int32))] [(.int (2 : Int32)), (.int (2 : Int32)), (.ref b), (.int (2 : Int32)), (.ref b2)])) (fun t k => XS.iloadN X12.here hx rfl (hb hby d3_24) rfl k) ?_
  refine own_by (B := T12.setTop (mkF m 26 #[.val (.ref r0), .val (.ref b2), .val (.int (2 : Int32))] [(.int (4 : Int32)), (.ref b), (.int (2 : Int32)), (.ref b2)])) (fun t k => XS.imul X12.here hx rfl (hb hby d3_25) rfl k) ?_
  refine own_by (B := T12.setTop (mkF m 27 #[.val (.ref r0), .val (.ref b2), .val (.int (2 : Int32))] [(.int (1 : Int32)), (.int (4 : Int32)), (.ref b), (.int (2 : Int32)), (.ref b2)])) (fun t k => XS.iconst X12.here hx rfl (hb hby d3_26) k) ?_
  refine own_by (B := T12.setTop (mkF m 28 #[.val (.ref r0), .val (.ref b2), .val (.int (2 : Int32))] [(.int (5 : Int32)), (.ref b), (.int (2 : Int32)), (.ref b2)])) (fun t k => XS.iadd X12.here hx rfl (hb hby d3_27) rfl k) ?_
  obtain ⟨cl13, Ar13, hin13, hat13⟩ := V_b.at (j := (5 : Int32)) (own_in (i := 5) (by omega) (by omega))
  have hat13 := hat13.trans (congrArg some (show _ = (.int x2) from hf2))
  refine own_by (B := T12.setTop (mkF m 29 #[.val (.ref r0), .val (.ref b2), .val (.int (2 : Int32))] [(.int x2), (.int (2 : Int32)), (.ref b2)])) (fun t k => X12.iaload hx (j := (5 : Int32)) (v := (.int x2)) (by rw [e12]; exact Ar13.1) (State.isArrayOf_alike hZ.alike Ar13.2.1) Ar13.2.2 hin13 hat13 (g := (mkF m 28 #[.val (.ref r0), .val (.ref b2), .val (.int (2 : Int32))] [(.int (5 : Int32)), (.ref b), (.int (2 : Int32)), (.ref b2)])) rfl rfl (hb hby d3_28) _ k) ?_
  obtain ⟨cl14, Ar14, hin14, -⟩ := V_b2.at (j := (2 : Int32)) ⟨by decide, by decide⟩
  obtain ⟨T14, h14, X14, e14, W14, st14⟩ := stI X12 hx hZ e12 Ar14 (j := (2 : Int32)) hin14 (g := (mkF m 29 #[.val (.ref r0), .val (.ref b2), .val (.int (2 : Int32))] [(.int x2), (.int (2 : Int32)), (.ref b2)])) rfl rfl (hb hby d3_29)
  have F_size_r0 := F_size_r0.other W14 (Or.inl ne_r0_b2)
  have F_entries_r0 := F_entries_r0.other W14 (Or.inl ne_r0_b2)
  have V_b := V_b.other W14 ne_b_b2
  have V_b2 := V_b2.set W14
  have Zs : n0 ≤ h14.size := by rw [W14.size]; exact Zs
  have Kp := Kp.wr W14 (Or.inr sz_b2)
  have Nf := Fr.snoc X14 Nf g_b2
  refine own_by (B := T14.setTop (mkF m 30 #[.val (.ref r0), .val (.ref b2), .val (.int (2 : Int32))] [])) st14 ?_
  refine own_by (B := T14.setTop (mkF m 33 #[.val (.ref r0), .val (.ref b2), .val (.int (3 : Int32))] [])) (fun t k => XS.iinc X14.here hx rfl (hb hby d3_30) rfl (l' := #[.val (.ref r0), .val (.ref b2), .val (.int (3 : Int32))]) rfl k) ?_
  refine own_by (B := T14.setTop (mkF m 9 #[.val (.ref r0), .val (.ref b2), .val (.int (3 : Int32))] [])) (fun t k => XS.goto X14.here hx rfl (pc0 := 33) (pc' := 9) rfl (hb hby d3_33) (by decide) (by decide) k) ?_
  refine own_by (B := T14.setTop (mkF m 10 #[.val (.ref r0), .val (.ref b2), .val (.int (3 : Int32))] [(.int (3 : Int32))])) (fun t k => XS.iloadN X14.here hx rfl (hb hby d3_9) rfl k) ?_
  refine own_by (B := T14.setTop (mkF m 11 #[.val (.ref r0), .val (.ref b2), .val (.int (3 : Int32))] [(.ref r0), (.int (3 : Int32))])) (fun t k => XS.aloadN X14.here hx rfl (hb hby d3_10) rfl rfl k) ?_
  obtain ⟨T15, X15, e15, st15⟩ := getF X14 hx hZ hown (host := "") (Or.inl (hw _ (List.mem_of_getElem? (i := 18) rfl))) Via.refl e14 F_size_r0 (g := (mkF m 11 #[.val (.ref r0), .val (.ref b2), .val (.int (3 : Int32))] [(.ref r0), (.int (3 : Int32))])) rfl rfl (hb hby d3_11)
  refine own_by (B := T15.setTop (mkF m 14 #[.val (.ref r0), .val (.ref b2), .val (.int (3 : Int32))] [(.int (3 : Int32)), (.int (3 : Int32))])) st15 ?_
  refine own_by (B := T15.setTop (mkF m 36 #[.val (.ref r0), .val (.ref b2), .val (.int (3 : Int32))] [])) (fun t k => XS.icmpYes X15.here hx rfl (pc0 := 14) (pc' := 36) rfl (hb hby d3_14) rfl (flt (by decide)).2.1 (by decide) (by decide) k) ?_
  refine own_by (B := T15.setTop (mkF m 37 #[.val (.ref r0), .val (.ref b2), .val (.int (3 : Int32))] [(.ref b2)])) (fun t k => XS.aloadN X15.here hx rfl (hb hby d3_36) rfl rfl k) ?_
  exact own_end X15 (v := some (.ref b2)) (fun h => by rw [Bd.returns] at h; cases h) (BodyLoose.notSynchronized Bd) (Q := (Q_rmF3 Z r0 b mz f x0 x1 x2 h0 n0)) (fun fs hr => retOut X15 hx (t := (.array .int)) Bd.returns rfl (Or.inr (Or.inr (Or.inr (Or.inr ⟨rfl, rfl, rfl⟩)))) (hb hby d3_37) hr) (show (Q_rmF3 Z r0 b mz f x0 x1 x2 h0 n0) _ T15.heap _ from (by rw [e15]; exact ⟨by rw [gq2], Nf, Kp, _, by rw [← gq2]; exact V_b2, rfl, rfl, rfl⟩)) (by decide) (by decide)
theorem ef_rmF4 (m : MethodId) (x0 : Addr) : entryFrame m #[(.ref x0)] 3 = mkF m 0 #[.val (.ref x0), .unset, .unset] [] := by first | (simp [entryFrame, mkF, argsToLocals, Value.category]; done) | rfl
def Q_rmF4 (Z : State) (r0 : Addr) (b : Addr) (mz : Nat) (f : Nat → Value) (x0 : Int32) (x1 : Int32) (x2 : Int32) (x3 : Int32) (h0 : Heap) (n0 : Nat) (v : Option Value) (h : Heap) (L : List Loc) : Prop := v = some (.ref h0.size) ∧ Fr n0 L ∧ Keep h0 h [] ∧ ∃ g, own_Arf Z h h0.size .int (4 : Int32) g ∧ g 0 = .int x0 ∧ g 1 = .int x1 ∧ g 2 = .int x2 ∧ g 3 = .int x3
set_option maxRecDepth 65536 in
set_option maxHeartbeats 40000000 in
theorem rmF4 (l : Launch) (Z : State) (a0 : Array Value) (hw : ∀ d ∈ tables_1, d.before a0 Z = true) (ws : List Jvm.Cond) (r0 : Addr) (b : Addr) (mz : Nat) (f : Nat → Value) (x0 : Int32) (x1 : Int32) (x2 : Int32) (x3 : Int32) (h0 : Heap) (n0 : Nat) (Z0 : n0 ≤ h0.size) (F_size_r0 : Fld Z h0 r0 "com/example/surrogate/surrogate/index/Entries" "size" "I" (.int (4 : Int32))) (F_entries_r0 : Fld Z h0 r0 "com/example/surrogate/surrogate/index/Entries" "entries" "[I" (.ref b)) (V_b : own_Arf Z h0 b .int (Int32.ofNat mz) f) (ne_r0_b : r0 ≠ b) (hm : 8 ≤ mz) (hm12 : mz ≤ 12) (hf0 : f 1 = .int x0) (hf1 : f 3 = .int x1) (hf2 : f 5 = .int x2) (hf3 : f 7 = .int x3) :
    MetFree l (⟨"com/example/surrogate/surrogate/index/Entries", "frequencies", "()[I"⟩ : MethodName) (head1 (Jvm.Cond.code (⟨"com/example/surrogate/surrogate/index/Entries", "frequencies", "()[I"⟩ : MethodName) prog_20_method_8_code 3 (some (.array .int)) :: ws) ({ frames := 0, cells := 1, slots := 4, locals := 0 } : Room)) (fun a U => a = #[(.ref r0)] ∧ Z.Warmed39 U.vm ∧ U.heap = h0) (fun _ _ _ _ _ => True) (fun _ U o U' => ∃ v L, o = .returned v ∧ Q_rmF4 Z r0 b mz f x0 x1 x2 x3 h0 n0 v U'.heap L ∧ FrameEnd U o U' L ({ frames := 0, cells := 1, slots := 4, locals := 0 } : Room).cells ({ frames := 0, cells := 1, slots := 4, locals := 0 } : Room).slots) := by
  refine MetFree.of_bodySF (plainFor_of_name own_pn1) hisR ?_
  intro p e s m args below meth c s₁ Bd hml0 hP hK
  obtain ⟨rfl, hZ, hh⟩ := hP
  have hx := Bd.exec
  have hby := Bd.bytes
  have hml : c.maxLocals = 3 := hml0
  have hown : s.vm.findClass "com/example/surrogate/surrogate/index/Entries" = some m.cls := findClass_of_methodNamed Bd.named
  have hnm := (name_of_methodNamed Bd.named Bd.method).1
  have X0 : Stand p l e ({ frames := 0, cells := 1, slots := 4, locals := 0 } : Room) s m #[(.ref r0)] below meth c s₁ [] 0 0 := Stand.of_body Bd
  have e0 : s₁.heap = h0 := by rw [← hh, Bd.state]; rfl
  show own_Go p e below (s₁.setTop (entryFrame m #[(.ref r0)] 3)) (fun t o => ∃ v L, o = .returned v ∧ Q_rmF4 Z r0 b mz f x0 x1 x2 x3 h0 n0 v t.heap L ∧ FrameEnd s o t L ({ frames := 0, cells := 1, slots := 4, locals := 0 } : Room).cells ({ frames := 0, cells := 1, slots := 4, locals := 0 } : Room).slots)
  refine own_by (B := s₁.setTop (mkF m 0 #[.val (.ref r0), .unset, .unset] [])) (fun t k => castTop (ef_rmF4 m r0) k) ?_
  have Nf := Fr.nil n0
  have Zs := Z0
  have Kp := Keep.refl h0 []
  refine own_by (B := s₁.setTop (mkF m 1 #[.val (.ref r0), .unset, .unset] [(.ref r0)])) (fun t k => XS.aloadN X0.here hx rfl (hb hby d3_0) rfl rfl k) ?_
  obtain ⟨T1, X1, e1, st1⟩ := getF X0 hx hZ hown (host := "") (Or.inl (hw _ (List.mem_of_getElem? (i := 18) rfl))) Via.refl e0 F_size_r0 (g := (mkF m 1 #[.val (.ref r0), .unset, .unset] [(.ref r0)])) rfl rfl (hb hby d3_1)
  refine own_by (B := T1.setTop (mkF m 4 #[.val (.ref r0), .unset, .unset] [(.int (4 : Int32))])) st1 ?_
  obtain ⟨T2, h2, k2, X2, e2, E2, A2, st2⟩ := newP X1 hx hZ (hw _ (List.mem_of_getElem? (i := 10) rfl)) e1 (g := (mkF m 4 #[.val (.ref r0), .unset, .unset] [(.int (4 : Int32))])) rfl (hb hby d3_4) rfl (by decide) (cap := 4) (by decide) (by decide) (by decide) (by decide)
  obtain ⟨b2, gq2⟩ : ∃ z, z = h0.size := ⟨_, rfl⟩
  rw [← gq2] at A2 st2
  have ne_r0_b2 : r0 ≠ b2 := Nat.ne_of_lt (Nat.lt_of_lt_of_le F_size_r0.lt (Nat.le_of_eq gq2.symm))
  have ne_b_b2 : b ≠ b2 := Nat.ne_of_lt (Nat.lt_of_lt_of_le V_b.lt (Nat.le_of_eq gq2.symm))
  have g_b2 : n0 ≤ b2 := Nat.le_trans Zs (Nat.le_of_eq gq2.symm)
  have sz_b2 : h0.size ≤ b2 := Nat.le_trans Kp.1 (Nat.le_of_eq gq2.symm)
  have F_size_r0 := F_size_r0.ext E2
  have F_entries_r0 := F_entries_r0.ext E2
  have V_b := V_b.ext E2
  have Zs := Nat.le_trans Zs E2.1
  have Kp := Kp.ext E2
  have V_b2 := own_Arf.new A2 (by decide)
  refine own_by (B := T2.setTop (mkF m 6 #[.val (.ref r0), .unset, .unset] [(.ref b2)])) st2 ?_
  refine own_by (B := T2.setTop (mkF m 7 #[.val (.ref r0), .val (.ref b2), .unset] [])) (fun t k => XS.astoreN X2.here hx rfl (hb hby d3_6) rfl rfl (l' := #[.val (.ref r0), .val (.ref b2), .unset]) rfl k) ?_
  refine own_by (B := T2.setTop (mkF m 8 #[.val (.ref r0), .val (.ref b2), .unset] [(.int (0 : Int32))])) (fun t k => XS.iconst X2.here hx rfl (hb hby d3_7) k) ?_
  refine own_by (B := T2.setTop (mkF m 9 #[.val (.ref r0), .val (.ref b2), .val (.int (0 : Int32))] [])) (fun t k => XS.istoreN X2.here hx rfl (hb hby d3_8) rfl (l' := #[.val (.ref r0), .val (.ref b2), .val (.int (0 : Int32))]) rfl k) ?_
  refine own_by (B := T2.setTop (mkF m 10 #[.val (.ref r0), .val (.ref b2), .val (.int (0 : Int32))] [(.int (0 : Int32))])) (fun t k => XS.iloadN X2.here hx rfl (hb hby d3_9) rfl k) ?_
  refine own_by (B := T2.setTop (mkF m 11 #[.val (.ref r0), .val (.ref b2), .val (.int (0 : Int32))] [(.ref r0), (.int (0 : Int32))])) (fun t k => XS.aloadN X2.here hx rfl (hb hby d3_10) rfl rfl k) ?_
  obtain ⟨T3, X3, e3, st3⟩ := getF X2 hx hZ hown (host := "") (Or.inl (hw _ (List.mem_of_getElem? (i := 18) rfl))) Via.refl e2 F_size_r0 (g := (mkF m 11 #[.val (.ref r0), .val (.ref b2), .val (.int (0 : Int32))] [(.ref r0), (.int (0 : Int32))])) rfl rfl (hb hby d3_11)
  refine own_by (B := T3.setTop (mkF m 14 #[.val (.ref r0), .val (.ref b2), .val (.int (0 : Int32))] [(.int (4 : Int32)), (.int (0 : Int32))])) st3 ?_
  refine own_by (B := T3.setTop (mkF m 17 #[.val (.ref r0), .val (.ref b2), .val (.int (0 : Int32))] [])) (fun t k => XS.icmpNo X3.here hx rfl (hb hby d3_14) rfl (tlt (by decide)).2.1 k) ?_
  refine own_by (B := T3.setTop (mkF m 18 #[.val (.ref r0), .val (.ref b2), .val (.int (0 : Int32))] [(.ref b2)])) (fun t k => XS.aloadN X3.here hx rfl (hb hby d3_17) rfl rfl k) ?_
  refine own_by (B := T3.setTop (mkF m 19 #[.val (.ref r0), .val (.ref b2), .val (.int (0 : Int32))] [(.int (0 : Int32)), (.ref b2)])) (fun t k => XS.iloadN X3.here hx rfl (hb hby d3_18) rfl k) ?_
  refine own_by (B := T3.setTop (mkF m 20 #[.val (.ref r0), .val (.ref b2), .val (.int (0 : Int32))] [(.ref r0), (.int (0 : Int32)), (.ref b2)])) (fun t k => XS.aloadN X3.here hx rfl (hb hby d3_19) rfl rfl k) ?_
  obtain ⟨T4, X4, e4, st4⟩ := getF X3 hx hZ hown (host := "") (Or.inl (hw _ (List.mem_of_getElem? (i := 11) rfl))) Via.refl e3 F_entries_r0 (g := (mkF m 20 #[.val (.ref r0), .val (.ref b2), .val (.int (0 : Int32))] [(.ref r0), (.int (0 : Int32)), (.ref b2)])) rfl rfl (hb hby d3_20)
  refine own_by (B := T4.setTop (mkF m 23 #[.val (.ref r0), .val (.ref b2), .val (.int (0 : Int32))] [(.ref b), (.int (0 : Int32)), (.ref b2)])) st4 ?_
  refine own_by (B := T4.setTop (mkF m 24 #[.val (.ref r0), .val (.ref b2), .val (.int (0 : Int32))] [(.int (2 : Int32)), (.ref b), (.int (0 : Int32)), (.ref b2)])) (fun t k => XS.iconst X4.here hx rfl (hb hby d3_23) k) ?_
  refine own_by (B := T4.setTop (mkF m 25 #[.val (.ref r0), .val (.ref b2), .val (.int (0 : Int32))] [(.int (0 : Int32)), (.int (2 : Int32)), (.ref b), (.int (0 : Int32)), (.ref b2)])) (fun t k => XS.iloadN X4.here hx rfl (hb hby d3_24) rfl k) ?_
  refine own_by (B := T4.setTop (mkF m 26 #[.val (.ref r0), .val (.ref b2), .val (.int (0 : Int32))] [(.int (0 : Int32)), (.ref b), (.int (0 : Int32)), (.ref b2)])) (fun t k => XS.imul X4.here hx rfl (hb hby d3_25) rfl k) ?_
  refine own_by (B := T4.setTop (mkF m 27 #[.val (.ref r0), .val (.ref b2), .val (.int (0 : Int32))] [(.int (1 : Int32)), (.int (0 : Int32)), (.ref b), (.int (0 : Int32)), (.ref b2)])) (fun t k => XS.iconst X4.here hx rfl (hb hby d3_26) k) ?_
  refine own_by (B := T4.setTop (mkF m 28 #[.val (.ref r0), .val (.ref b2), .val (.int (0 : Int32))] [(.int (1 : Int32)), (.ref b), (.int (0 : Int32)), (.ref b2)])) (fun t k => XS.iadd X4.here hx rfl (hb hby d3_27) rfl k) ?_
  obtain ⟨cl5, Ar5, hin5, hat5⟩ := V_b.at (j := (1 : Int32)) (own_in (i := 1) (by omega) (by omega))
  have hat5 := hat5.trans (congrArg some (show _ = (.int x0) from hf0))
  refine own_by (B := T4.setTop (mkF m 29 #[.val (.ref r0), .val (.ref b2), .val (.int (0 : Int32))] [(.int x0), (.int (0 : Int32)), (.ref b2)])) (fun t k => X4.iaload hx (j := (1 : Int32)) (v := (.int x0)) (by rw [e4]; exact Ar5.1) (State.isArrayOf_alike hZ.alike Ar5.2.1) Ar5.2.2 hin5 hat5 (g := (mkF m 28 #[.val (.ref r0), .val (.ref b2), .val (.int (0 : Int32))] [(.int (1 : Int32)), (.ref b), (.int (0 : Int32)), (.ref b2)])) rfl rfl (hb hby d3_28) _ k) ?_
  obtain ⟨cl6, Ar6, hin6, -⟩ := V_b2.at (j := (0 : Int32)) ⟨by decide, by decide⟩
  obtain ⟨T6, h6, X6, e6, W6, st6⟩ := stI X4 hx hZ e4 Ar6 (j := (0 : Int32)) hin6 (g := (mkF m 29 #[.val (.ref r0), .val (.ref b2), .val (.int (0 : Int32))] [(.int x0), (.int (0 : Int32)), (.ref b2)])) rfl rfl (hb hby d3_29)
  have F_size_r0 := F_size_r0.other W6 (Or.inl ne_r0_b2)
  have F_entries_r0 := F_entries_r0.other W6 (Or.inl ne_r0_b2)
  have V_b := V_b.other W6 ne_b_b2
  have V_b2 := V_b2.set W6
  have Zs : n0 ≤ h6.size := by rw [W6.size]; exact Zs
  have Kp := Kp.wr W6 (Or.inr sz_b2)
  have Nf := Fr.snoc X6 Nf g_b2
  refine own_by (B := T6.setTop (mkF m 30 #[.val (.ref r0), .val (.ref b2), .val (.int (0 : Int32))] [])) st6 ?_
  refine own_by (B := T6.setTop (mkF m 33 #[.val (.ref r0), .val (.ref b2), .val (.int (1 : Int32))] [])) (fun t k => XS.iinc X6.here hx rfl (hb hby d3_30) rfl (l' := #[.val (.ref r0), .val (.ref b2), .val (.int (1 : Int32))]) rfl k) ?_
  refine own_by (B := T6.setTop (mkF m 9 #[.val (.ref r0), .val (.ref b2), .val (.int (1 : Int32))] [])) (fun t k => XS.goto X6.here hx rfl (pc0 := 33) (pc' := 9) rfl (hb hby d3_33) (by decide) (by decide) k) ?_
  refine own_by (B := T6.setTop (mkF m 10 #[.val (.ref r0), .val (.ref b2), .val (.int (1 : Int32))] [(.int (1 : Int32))])) (fun t k => XS.iloadN X6.here hx rfl (hb hby d3_9) rfl k) ?_
  refine own_by (B := T6.setTop (mkF m 11 #[.val (.ref r0), .val (.ref b2), .val (.int (1 : Int32))] [(.ref r0), (.int (1 : Int32))])) (fun t k => XS.aloadN X6.here hx rfl (hb hby d3_10) rfl rfl k) ?_
  obtain ⟨T7, X7, e7, st7⟩ := getF X6 hx hZ hown (host := "") (Or.inl (hw _ (List.mem_of_getElem? (i := 18) rfl))) Via.refl e6 F_size_r0 (g := (mkF m 11 #[.val (.ref r0), .val (.ref b2), .val (.int (1 : Int32))] [(.ref r0), (.int (1 : Int32))])) rfl rfl (hb hby d3_11)
  refine own_by (B := T7.setTop (mkF m 14 #[.val (.ref r0), .val (.ref b2), .val (.int (1 : Int32))] [(.int (4 : Int32)), (.int (1 : Int32))])) st7 ?_
  refine own_by (B := T7.setTop (mkF m 17 #[.val (.ref r0), .val (.ref b2), .val (.int (1 : Int32))] [])) (fun t k => XS.icmpNo X7.here hx rfl (hb hby d3_14) rfl (tlt (by decide)).2.1 k) ?_
  refine own_by (B := T7.setTop (mkF m 18 #[.val (.ref r0), .val (.ref b2), .val (.int (1 : Int32))] [(.ref b2)])) (fun t k => XS.aloadN X7.here hx rfl (hb hby d3_17) rfl rfl k) ?_
  refine own_by (B := T7.setTop (mkF m 19 #[.val (.ref r0), .val (.ref b2), .val (.int (1 : Int32))] [(.int (1 : Int32)), (.ref b2)])) (fun t k => XS.iloadN X7.here hx rfl (hb hby d3_18) rfl k) ?_
  refine own_by (B := T7.setTop (mkF m 20 #[.val (.ref r0), .val (.ref b2), .val (.int (1 : Int32))] [(.ref r0), (.int (1 : Int32)), (.ref b2)])) (fun t k => XS.aloadN X7.here hx rfl (hb hby d3_19) rfl rfl k) ?_
  obtain ⟨T8, X8, e8, st8⟩ := getF X7 hx hZ hown (host := "") (Or.inl (hw _ (List.mem_of_getElem? (i := 11) rfl))) Via.refl e7 F_entries_r0 (g := (mkF m 20 #[.val (.ref r0), .val (.ref b2), .val (.int (1 : Int32))] [(.ref r0), (.int (1 : Int32)), (.ref b2)])) rfl rfl (hb hby d3_20)
  refine own_by (B := T8.setTop (mkF m 23 #[.val (.ref r0), .val (.ref b2), .val (.int (1 : Int32))] [(.ref b), (.int (1 : Int32)), (.ref b2)])) st8 ?_
  refine own_by (B := T8.setTop (mkF m 24 #[.val (.ref r0), .val (.ref b2), .val (.int (1 : Int32))] [(.int (2 : Int32)), (.ref b), (.int (1 : Int32)), (.ref b2)])) (fun t k => XS.iconst X8.here hx rfl (hb hby d3_23) k) ?_
  refine own_by (B := T8.setTop (mkF m 25 #[.val (.ref r0), .val (.ref b2), .val (.int (1 : Int32))] [(.int (1 : Int32)), (.int (2 : Int32)), (.ref b), (.int (1 : Int32)), (.ref b2)])) (fun t k => XS.iloadN X8.here hx rfl (hb hby d3_24) rfl k) ?_
  refine own_by (B := T8.setTop (mkF m 26 #[.val (.ref r0), .val (.ref b2), .val (.int (1 : Int32))] [(.int (2 : Int32)), (.ref b), (.int (1 : Int32)), (.ref b2)])) (fun t k => XS.imul X8.here hx rfl (hb hby d3_25) rfl k) ?_
  refine own_by (B := T8.setTop (mkF m 27 #[.val (.ref r0), .val (.ref b2), .val (.int (1 : Int32))] [(.int (1 : Int32)), (.int (2 : Int32)), (.ref b), (.int (1 : Int32)), (.ref b2)])) (fun t k => XS.iconst X8.here hx rfl (hb hby d3_26) k) ?_
  refine own_by (B := T8.setTop (mkF m 28 #[.val (.ref r0), .val (.ref b2), .val (.int (1 : Int32))] [(.int (3 : Int32)), (.ref b), (.int (1 : Int32)), (.ref b2)])) (fun t k => XS.iadd X8.here hx rfl (hb hby d3_27) rfl k) ?_
  obtain ⟨cl9, Ar9, hin9, hat9⟩ := V_b.at (j := (3 : Int32)) (own_in (i := 3) (by omega) (by omega))
  have hat9 := hat9.trans (congrArg some (show _ = (.int x1) from hf1))
  refine own_by (B := T8.setTop (mkF m 29 #[.val (.ref r0), .val (.ref b2), .val (.int (1 : Int32))] [(.int x1), (.int (1 : Int32)), (.ref b2)])) (fun t k => X8.iaload hx (j := (3 : Int32)) (v := (.int x1)) (by rw [e8]; exact Ar9.1) (State.isArrayOf_alike hZ.alike Ar9.2.1) Ar9.2.2 hin9 hat9 (g := (mkF m 28 #[.val (.ref r0), .val (.ref b2), .val (.int (1 : Int32))] [(.int (3 : Int32)), (.ref b), (.int (1 : Int32)), (.ref b2)])) rfl rfl (hb hby d3_28) _ k) ?_
  obtain ⟨cl10, Ar10, hin10, -⟩ := V_b2.at (j := (1 : Int32)) ⟨by decide, by decide⟩
  obtain ⟨T10, h10, X10, e10, W10, st10⟩ := stI X8 hx hZ e8 Ar10 (j := (1 : Int32)) hin10 (g := (mkF m 29 #[.val (.ref r0), .val (.ref b2), .val (.int (1 : Int32))] [(.int x1), (.int (1 : Int32)), (.ref b2)])) rfl rfl (hb hby d3_29)
  have F_size_r0 := F_size_r0.other W10 (Or.inl ne_r0_b2)
  have F_entries_r0 := F_entries_r0.other W10 (Or.inl ne_r0_b2)
  have V_b := V_b.other W10 ne_b_b2
  have V_b2 := V_b2.set W10
  have Zs : n0 ≤ h10.size := by rw [W10.size]; exact Zs
  have Kp := Kp.wr W10 (Or.inr sz_b2)
  have Nf := Fr.snoc X10 Nf g_b2
  refine own_by (B := T10.setTop (mkF m 30 #[.val (.ref r0), .val (.ref b2), .val (.int (1 : Int32))] [])) st10 ?_
  refine own_by (B := T10.setTop (mkF m 33 #[.val (.ref r0), .val (.ref b2), .val (.int (2 : Int32))] [])) (fun t k => XS.iinc X10.here hx rfl (hb hby d3_30) rfl (l' := #[.val (.ref r0), .val (.ref b2), .val (.int (2 : Int32))]) rfl k) ?_
  refine own_by (B := T10.setTop (mkF m 9 #[.val (.ref r0), .val (.ref b2), .val (.int (2 : Int32))] [])) (fun t k => XS.goto X10.here hx rfl (pc0 := 33) (pc' := 9) rfl (hb hby d3_33) (by decide) (by decide) k) ?_
  refine own_by (B := T10.setTop (mkF m 10 #[.val (.ref r0), .val (.ref b2), .val (.int (2 : Int32))] [(.int (2 : Int32))])) (fun t k => XS.iloadN X10.here hx rfl (hb hby d3_9) rfl k) ?_
  refine own_by (B := T10.setTop (mkF m 11 #[.val (.ref r0), .val (.ref b2), .val (.int (2 : Int32))] [(.ref r0), (.int (2 : Int32))])) (fun t k => XS.aloadN X10.here hx rfl (hb hby d3_10) rfl rfl k) ?_
  obtain ⟨T11, X11, e11, st11⟩ := getF X10 hx hZ hown (host := "") (Or.inl (hw _ (List.mem_of_getElem? (i := 18) rfl))) Via.refl e10 F_size_r0 (g := (mkF m 11 #[.val (.ref r0), .val (.ref b2), .val (.int (2 : Int32))] [(.ref r0), (.int (2 : Int32))])) rfl rfl (hb hby d3_11)
  refine own_by (B := T11.setTop (mkF m 14 #[.val (.ref r0), .val (.ref b2), .val (.int (2 : Int32))] [(.int (4 : Int32)), (.int (2 : Int32))])) st11 ?_
  refine own_by (B := T11.setTop (mkF m 17 #[.val (.ref r0), .val (.ref b2), .val (.int (2 : Int32))] [])) (fun t k => XS.icmpNo X11.here hx rfl (hb hby d3_14) rfl (tlt (by decide)).2.1 k) ?_
  refine own_by (B := T11.setTop (mkF m 18 #[.val (.ref r0), .val (.ref b2), .val (.int (2 : Int32))] [(.ref b2)])) (fun t k => XS.aloadN X11.here hx rfl (hb hby d3_17) rfl rfl k) ?_
  refine own_by (B := T11.setTop (mkF m 19 #[.val (.ref r0), .val (.ref b2), .val (.int (2 : Int32))] [(.int (2 : Int32)), (.ref b2)])) (fun t k => XS.iloadN X11.here hx rfl (hb hby d3_18) rfl k) ?_
  refine own_by (B := T11.setTop (mkF m 20 #[.val (.ref r0), .val (.ref b2), .val (.int (2 : Int32))] [(.ref r0), (.int (2 : Int32)), (.ref b2)])) (fun t k => XS.aloadN X11.here hx rfl (hb hby d3_19) rfl rfl k) ?_
  obtain ⟨T12, X12, e12, st12⟩ := getF X11 hx hZ hown (host := "") (Or.inl (hw _ (List.mem_of_getElem? (i := 11) rfl))) Via.refl e11 F_entries_r0 (g := (mkF m 20 #[.val (.ref r0), .val (.ref b2), .val (.int (2 : Int32))] [(.ref r0), (.int (2 : Int32)), (.ref b2)])) rfl rfl (hb hby d3_20)
  refine own_by (B := T12.setTop (mkF m 23 #[.val (.ref r0), .val (.ref b2), .val (.int (2 : Int32))] [(.ref b), (.int (2 : Int32)), (.ref b2)])) st12 ?_
  refine own_by (B := T12.setTop (mkF m 24 #[.val (.ref r0), .val (.ref b2), .val (.int (2 : Int32))] [(.int (2 : Int32)), (.ref b), (.int (2 : Int32)), (.ref b2)])) (fun t k => XS.iconst X12.here hx rfl (hb hby d3_23) k) ?_
  refine own_by (B := T12.setTop (mkF m 25 #[.val (.ref r0), .val (.ref b2), .val (.int (2 : Int32))] [(.int (2 : Int32)), (.int (2 : Int32)), (.ref b), (.int (2 : Int32)), (.ref b2)])) (fun t k => XS.iloadN X12.here hx rfl (hb hby d3_24) rfl k) ?_
  refine own_by (B := T12.setTop (mkF m 26 #[.val (.ref r0), .val (.ref b2), .val (.int (2 : Int32))] [(.int (4 : Int32)), (.ref b), (.int (2 : Int32)), (.ref b2)])) (fun t k => XS.imul X12.here hx rfl (hb hby d3_25) rfl k) ?_
  refine own_by (B := T12.setTop (mkF m 27 #[.val (.ref r0), .val (.ref b2), .val (.int (2 : Int32))] [(.int (1 : Int32)), (.int (4 : Int32)), (.ref b), (.int (2 : Int32)), (.ref b2)])) (fun t k => XS.iconst X12.here hx rfl (hb hby d3_26) k) ?_
  refine own_by (B := T12.setTop (mkF m 28 #[.val (.ref r0), .val (.ref b2), .val (.int (2 : Int32))] [(.int (5 : Int32)), (.ref b), (.int (2 : Int32)), (.ref b2)])) (fun t k => XS.iadd X12.here hx rfl (hb hby d3_27) rfl k) ?_
  obtain ⟨cl13, Ar13, hin13, hat13⟩ := V_b.at (j := (5 : Int32)) (own_in (i := 5) (by omega) (by omega))
  have hat13 := hat13.trans (congrArg some (show _ = (.int x2) from hf2))
  refine own_by (B := T12.setTop (mkF m 29 #[.val (.ref r0), .val (.ref b2), .val (.int (2 : Int32))] [(.int x2), (.int (2 : Int32)), (.ref b2)])) (fun t k => X12.iaload hx (j := (5 : Int32)) (v := (.int x2)) (by rw [e12]; exact Ar13.1) (State.isArrayOf_alike hZ.alike Ar13.2.1) Ar13.2.2 hin13 hat13 (g := (mkF m 28 #[.val (.ref r0), .val (.ref b2), .val (.int (2 : Int32))] [(.int (5 : Int32)), (.ref b), (.int (2 : Int32)), (.ref b2)])) rfl rfl (hb hby d3_28) _ k) ?_
  obtain ⟨cl14, Ar14, hin14, -⟩ := V_b2.at (j := (2 : Int32)) ⟨by decide, by decide⟩
  obtain ⟨T14, h14, X14, e14, W14, st14⟩ := stI X12 hx hZ e12 Ar14 (j := (2 : Int32)) hin14 (g := (mkF m 29 #[.val (.ref r0), .val (.ref b2), .val (.int (2 : Int32))] [(.int x2), (.int (2 : Int32)), (.ref b2)])) rfl rfl (hb hby d3_29)
  have F_size_r0 := F_size_r0.other W14 (Or.inl ne_r0_b2)
  have F_entries_r0 := F_entries_r0.other W14 (Or.inl ne_r0_b2)
  have V_b := V_b.other W14 ne_b_b2
  have V_b2 := V_b2.set W14
  have Zs : n0 ≤ h14.size := by rw [W14.size]; exact Zs
  have Kp := Kp.wr W14 (Or.inr sz_b2)
  have Nf := Fr.snoc X14 Nf g_b2
  refine own_by (B := T14.setTop (mkF m 30 #[.val (.ref r0), .val (.ref b2), .val (.int (2 : Int32))] [])) st14 ?_
  refine own_by (B := T14.setTop (mkF m 33 #[.val (.ref r0), .val (.ref b2), .val (.int (3 : Int32))] [])) (fun t k => XS.iinc X14.here hx rfl (hb hby d3_30) rfl (l' := #[.val (.ref r0), .val (.ref b2), .val (.int (3 : Int32))]) rfl k) ?_
  refine own_by (B := T14.setTop (mkF m 9 #[.val (.ref r0), .val (.ref b2), .val (.int (3 : Int32))] [])) (fun t k => XS.goto X14.here hx rfl (pc0 := 33) (pc' := 9) rfl (hb hby d3_33) (by decide) (by decide) k) ?_
  refine own_by (B := T14.setTop (mkF m 10 #[.val (.ref r0), .val (.ref b2), .val (.int (3 : Int32))] [(.int (3 : Int32))])) (fun t k => XS.iloadN X14.here hx rfl (hb hby d3_9) rfl k) ?_
  refine own_by (B := T14.setTop (mkF m 11 #[.val (.ref r0), .val (.ref b2), .val (.int (3 : Int32))] [(.ref r0), (.int (3 : Int32))])) (fun t k => XS.aloadN X14.here hx rfl (hb hby d3_10) rfl rfl k) ?_
  obtain ⟨T15, X15, e15, st15⟩ := getF X14 hx hZ hown (host := "") (Or.inl (hw _ (List.mem_of_getElem? (i := 18) rfl))) Via.refl e14 F_size_r0 (g := (mkF m 11 #[.val (.ref r0), .val (.ref b2), .val (.int (3 : Int32))] [(.ref r0), (.int (3 : Int32))])) rfl rfl (hb hby d3_11)
  refine own_by (B := T15.setTop (mkF m 14 #[.val (.ref r0), .val (.ref b2), .val (.int (3 : Int32))] [(.int (4 : Int32)), (.int (3 : Int32))])) st15 ?_
  refine own_by (B := T15.setTop (mkF m 17 #[.val (.ref r0), .val (.ref b2), .val (.int (3 : Int32))] [])) (fun t k => XS.icmpNo X15.here hx rfl (hb hby d3_14) rfl (tlt (by decide)).2.1 k) ?_
  refine own_by (B := T15.setTop (mkF m 18 #[.val (.ref r0), .val (.ref b2), .val (.int (3 : Int32))] [(.ref b2)])) (fun t k => XS.aloadN X15.here hx rfl (hb hby d3_17) rfl rfl k) ?_
  refine own_by (B := T15.setTop (mkF m 19 #[.val (.ref r0), .val (.ref b2), .val (.int (3 : Int32))] [(.int (3 : Int32)), (.ref b2)])) (fun t k => XS.iloadN X15.here hx rfl (hb hby d3_18) rfl k) ?_
  refine own_by (B := T15.setTop (mkF m 20 #[.val (.ref r0), .val (.ref b2), .val (.int (3 : Int32))] [(.ref r0), (.int (3 : Int32)), (.ref b2)])) (fun t k => XS.aloadN X15.here hx rfl (hb hby d3_19) rfl rfl k) ?_
  obtain ⟨T16, X16, e16, st16⟩ := getF X15 hx hZ hown (host := "") (Or.inl (hw _ (List.mem_of_getElem? (i := 11) rfl))) Via.refl e15 F_entries_r0 (g := (mkF m 20 #[.val (.ref r0), .val (.ref b2), .val (.int (3 : Int32))] [(.ref r0), (.int (3 : Int32)), (.ref b2)])) rfl rfl (hb hby d3_20)
  refine own_by (B := T16.setTop (mkF m 23 #[.val (.ref r0), .val (.ref b2), .val (.int (3 : Int32))] [(.ref b), (.int (3 : Int32)), (.ref b2)])) st16 ?_
  refine own_by (B := T16.setTop (mkF m 24 #[.val (.ref r0), .val (.ref b2), .val (.int (3 : Int32))] [(.int (2 : Int32)), (.ref b), (.int (3 : Int32)), (.ref b2)])) (fun t k => XS.iconst X16.here hx rfl (hb hby d3_23) k) ?_
  refine own_by (B := T16.setTop (mkF m 25 #[.val (.ref r0), .val (.ref b2), .val (.int (3 : Int32))] [(.int (3 : Int32)), (.int (2 : Int32)), (.ref b), (.int (3 : Int32)), (.ref b2)])) (fun t k => XS.iloadN X16.here hx rfl (hb hby d3_24) rfl k) ?_
  refine own_by (B := T16.setTop (mkF m 26 #[.val (.ref r0), .val (.ref b2), .val (.int (3 : Int32))] [(.int (6 : Int32)), (.ref b), (.int (3 : Int32)), (.ref b2)])) (fun t k => XS.imul X16.here hx rfl (hb hby d3_25) rfl k) ?_
  refine own_by (B := T16.setTop (mkF m 27 #[.val (.ref r0), .val (.ref b2), .val (.int (3 : Int32))] [(.int (1 : Int32)), (.int (6 : Int32)), (.ref b), (.int (3 : Int32)), (.ref b2)])) (fun t k => XS.iconst X16.here hx rfl (hb hby d3_26) k) ?_
  refine own_by (B := T16.setTop (mkF m 28 #[.val (.ref r0), .val (.ref b2), .val (.int (3 : Int32))] [(.int (7 : Int32)), (.ref b), (.int (3 : Int32)), (.ref b2)])) (fun t k => XS.iadd X16.here hx rfl (hb hby d3_27) rfl k) ?_
  obtain ⟨cl17, Ar17, hin17, hat17⟩ := V_b.at (j := (7 : Int32)) (own_in (i := 7) (by omega) (by omega))
  have hat17 := hat17.trans (congrArg some (show _ = (.int x3) from hf3))
  refine own_by (B := T16.setTop (mkF m 29 #[.val (.ref r0), .val (.ref b2), .val (.int (3 : Int32))] [(.int x3), (.int (3 : Int32)), (.ref b2)])) (fun t k => X16.iaload hx (j := (7 : Int32)) (v := (.int x3)) (by rw [e16]; exact Ar17.1) (State.isArrayOf_alike hZ.alike Ar17.2.1) Ar17.2.2 hin17 hat17 (g := (mkF m 28 #[.val (.ref r0), .val (.ref b2), .val (.int (3 : Int32))] [(.int (7 : Int32)), (.ref b), (.int (3 : Int32)), (.ref b2)])) rfl rfl (hb hby d3_28) _ k) ?_
  obtain ⟨cl18, Ar18, hin18, -⟩ := V_b2.at (j := (3 : Int32)) ⟨by decide, by decide⟩
  obtain ⟨T18, h18, X18, e18, W18, st18⟩ := stI X16 hx hZ e16 Ar18 (j := (3 : Int32)) hin18 (g := (mkF m 29 #[.val (.ref r0), .val (.ref b2), .val (.int (3 : Int32))] [(.int x3), (.int (3 : Int32)), (.ref b2)])) rfl rfl (hb hby d3_29)
  have F_size_r0 := F_size_r0.other W18 (Or.inl ne_r0_b2)
  have F_entries_r0 := F_entries_r0.other W18 (Or.inl ne_r0_b2)
  have V_b := V_b.other W18 ne_b_b2
  have V_b2 := V_b2.set W18
  have Zs : n0 ≤ h18.size := by rw [W18.size]; exact Zs
  have Kp := Kp.wr W18 (Or.inr sz_b2)
  have Nf := Fr.snoc X18 Nf g_b2
  refine own_by (B := T18.setTop (mkF m 30 #[.val (.ref r0), .val (.ref b2), .val (.int (3 : Int32))] [])) st18 ?_
  refine own_by (B := T18.setTop (mkF m 33 #[.val (.ref r0), .val (.ref b2), .val (.int (4 : Int32))] [])) (fun t k => XS.iinc X18.here hx rfl (hb hby d3_30) rfl (l' := #[.val (.ref r0), .val (.ref b2), .val (.int (4 : Int32))]) rfl k) ?_
  refine own_by (B := T18.setTop (mkF m 9 #[.val (.ref r0), .val (.ref b2), .val (.int (4 : Int32))] [])) (fun t k => XS.goto X18.here hx rfl (pc0 := 33) (pc' := 9) rfl (hb hby d3_33) (by decide) (by decide) k) ?_
  refine own_by (B := T18.setTop (mkF m 10 #[.val (.ref r0), .val (.ref b2), .val (.int (4 : Int32))] [(.int (4 : Int32))])) (fun t k => XS.iloadN X18.here hx rfl (hb hby d3_9) rfl k) ?_
  refine own_by (B := T18.setTop (mkF m 11 #[.val (.ref r0), .val (.ref b2), .val (.int (4 : Int32))] [(.ref r0), (.int (4 : Int32))])) (fun t k => XS.aloadN X18.here hx rfl (hb hby d3_10) rfl rfl k) ?_
  obtain ⟨T19, X19, e19, st19⟩ := getF X18 hx hZ hown (host := "") (Or.inl (hw _ (List.mem_of_getElem? (i := 18) rfl))) Via.refl e18 F_size_r0 (g := (mkF m 11 #[.val (.ref r0), .val (.ref b2), .val (.int (4 : Int32))] [(.ref r0), (.int (4 : Int32))])) rfl rfl (hb hby d3_11)
  refine own_by (B := T19.setTop (mkF m 14 #[.val (.ref r0), .val (.ref b2), .val (.int (4 : Int32))] [(.int (4 : Int32)), (.int (4 : Int32))])) st19 ?_
  refine own_by (B := T19.setTop (mkF m 36 #[.val (.ref r0), .val (.ref b2), .val (.int (4 : Int32))] [])) (fun t k => XS.icmpYes X19.here hx rfl (pc0 := 14) (pc' := 36) rfl (hb hby d3_14) rfl (flt (by decide)).2.1 (by decide) (by decide) k) ?_
  refine own_by (B := T19.setTop (mkF m 37 #[.val (.ref r0), .val (.ref b2), .val (.int (4 : Int32))] [(.ref b2)])) (fun t k => XS.aloadN X19.here hx rfl (hb hby d3_36) rfl rfl k) ?_
  exact own_end X19 (v := some (.ref b2)) (fun h => by rw [Bd.returns] at h; cases h) (BodyLoose.notSynchronized Bd) (Q := (Q_rmF4 Z r0 b mz f x0 x1 x2 x3 h0 n0)) (fun fs hr => retOut X19 hx (t := (.array .int)) Bd.returns rfl (Or.inr (Or.inr (Or.inr (Or.inr ⟨rfl, rfl, rfl⟩)))) (hb hby d3_37) hr) (show (Q_rmF4 Z r0 b mz f x0 x1 x2 x3 h0 n0) _ T19.heap _ from (by rw [e19]; exact ⟨by rw [gq2], Nf, Kp, _, by rw [← gq2]; exact V_b2, rfl, rfl, rfl, rfl⟩)) (by decide) (by decide)
theorem own_pd2 : parseMethodDescriptor "(I)V" = some ⟨[.int], none⟩ := by decide +kernel
theorem own_pd3 : parseMethodDescriptor "()[I" = some ⟨[], some (.array .int)⟩ := by decide +kernel
theorem own_pd4 : parseMethodDescriptor "(II)V" = some ⟨[.int, .int], none⟩ := by decide +kernel
theorem own_pn2 : plainName "com/example/surrogate/surrogate/index/EntriesFrequenciesPinLaw" = true := by first | (simp [plainName, overriddenIn]; done) | decide +kernel
theorem ef_rm0 (m : MethodId) (x0 : Int32) (x1 : Int32) (x2 : Int32) (x3 : Int32) (x4 : Int32) (x5 : Int32) : entryFrame m #[(.int x0), (.int x1), (.int x2), (.int x3), (.int x4), (.int x5)] maxLocals = mkF m 0 #[.val (.int x0), .val (.int x1), .val (.int x2), .val (.int x3), .val (.int x4), .val (.int x5), .unset, .unset, .unset, .unset, .unset, .unset] [] := by first | (simp [entryFrame, mkF, argsToLocals, Value.category, maxLocals]; done) | rfl
def Q_rm0 (Z : State) (i0 : Int32) (i1 : Int32) (i2 : Int32) (i3 : Int32) (i4 : Int32) (i5 : Int32) (h0 : Heap) (n0 : Nat) (v : Option Value) (h : Heap) (L : List Loc) : Prop := v = some (.int 1) ∧ Fr n0 L
set_option maxRecDepth 65536 in
set_option maxHeartbeats 40000000 in
theorem rm0 (l : Launch) (Z : State) (a0 : Array Value) (hw : ∀ d ∈ tables_1, d.before a0 Z = true) (ws : List Jvm.Cond) (i0 : Int32) (i1 : Int32) (i2 : Int32) (i3 : Int32) (i4 : Int32) (i5 : Int32) (h0 : Heap) (n0 : Nat) (Z0 : n0 ≤ h0.size)  :
    MetFree l x (head1 (Jvm.Cond.code x code maxLocals ret :: ws) room_1) (fun a U => a = #[(.int i0), (.int i1), (.int i2), (.int i3), (.int i4), (.int i5)] ∧ Z.Warmed39 U.vm ∧ U.heap = h0) (fun _ _ _ _ _ => True) (fun _ U o U' => ∃ v L, o = .returned v ∧ Q_rm0 Z i0 i1 i2 i3 i4 i5 h0 n0 v U'.heap L ∧ FrameEnd U o U' L room_1.cells room_1.slots) := by
  refine MetFree.of_bodySF (plainFor_of_name own_pn2) hisR ?_
  intro p e s m args below meth c s₁ Bd hml0 hP hK
  obtain ⟨rfl, hZ, hh⟩ := hP
  have hx := Bd.exec
  have hby := Bd.bytes
  have hml : c.maxLocals = 12 := hml0
  have hown : s.vm.findClass "com/example/surrogate/surrogate/index/EntriesFrequenciesPinLaw" = some m.cls := findClass_of_methodNamed Bd.named
  have hnm := (name_of_methodNamed Bd.named Bd.method).1
  have X0 : Stand p l e room_1 s m #[(.int i0), (.int i1), (.int i2), (.int i3), (.int i4), (.int i5)] below meth c s₁ [] 0 0 := Stand.of_body Bd
  have e0 : s₁.heap = h0 := by rw [← hh, Bd.state]; rfl
  show own_Go p e below (s₁.setTop (entryFrame m #[(.int i0), (.int i1), (.int i2), (.int i3), (.int i4), (.int i5)] maxLocals)) (fun t o => ∃ v L, o = .returned v ∧ Q_rm0 Z i0 i1 i2 i3 i4 i5 h0 n0 v t.heap L ∧ FrameEnd s o t L room_1.cells room_1.slots)
  refine own_by (B := s₁.setTop (mkF m 0 #[.val (.int i0), .val (.int i1), .val (.int i2), .val (.int i3), .val (.int i4), .val (.int i5), .unset, .unset, .unset, .unset, .unset, .unset] [])) (fun t k => castTop (ef_rm0 m i0 i1 i2 i3 i4 i5) k) ?_
  have Nf := Fr.nil n0
  have Zs := Z0
  refine own_by (B := s₁.setTop (mkF m 1 #[.val (.int i0), .val (.int i1), .val (.int i2), .val (.int i3), .val (.int i4), .val (.int i5), .unset, .unset, .unset, .unset, .unset, .unset] [(.int i0)])) (fun t k => XS.iloadN X0.here hx rfl (hb hby at_0) rfl k) ?_
  refine own_by (B := s₁.setTop (mkF m 2 #[.val (.int i0), .val (.int i1), .val (.int i2), .val (.int i3), .val (.int i4), .val (.int i5), .unset, .unset, .unset, .unset, .unset, .unset] [(.int (3 : Int32)), (.int i0)])) (fun t k => XS.iconst X0.here hx rfl (hb hby at_1) k) ?_
  refine own_by (B := s₁.setTop (mkF m 3 #[.val (.int i0), .val (.int i1), .val (.int i2), .val (.int i3), .val (.int i4), .val (.int i5), .unset, .unset, .unset, .unset, .unset, .unset] [(.int (i0 &&& (3 : Int32)))])) (fun t k => XS.iand X0.here hx rfl (hb hby at_2) rfl k) ?_
  refine own_by (B := s₁.setTop (mkF m 5 #[.val (.int i0), .val (.int i1), .val (.int i2), .val (.int i3), .val (.int i4), .val (.int i5), .val (.int (i0 &&& (3 : Int32))), .unset, .unset, .unset, .unset, .unset] [])) (fun t k => XS.istore X0.here hx rfl (hb hby at_3) rfl (l' := #[.val (.int i0), .val (.int i1), .val (.int i2), .val (.int i3), .val (.int i4), .val (.int i5), .val (.int (i0 &&& (3 : Int32))), .unset, .unset, .unset, .unset, .unset]) rfl k) ?_
  refine own_by (B := s₁.setTop (mkF m 6 #[.val (.int i0), .val (.int i1), .val (.int i2), .val (.int i3), .val (.int i4), .val (.int i5), .val (.int (i0 &&& (3 : Int32))), .unset, .unset, .unset, .unset, .unset] [(.int i0)])) (fun t k => XS.iloadN X0.here hx rfl (hb hby at_5) rfl k) ?_
  refine own_by (B := s₁.setTop (mkF m 7 #[.val (.int i0), .val (.int i1), .val (.int i2), .val (.int i3), .val (.int i4), .val (.int i5), .val (.int (i0 &&& (3 : Int32))), .unset, .unset, .unset, .unset, .unset] [(.int (2 : Int32)), (.int i0)])) (fun t k => XS.iconst X0.here hx rfl (hb hby at_6) k) ?_
  refine own_by (B := s₁.setTop (mkF m 8 #[.val (.int i0), .val (.int i1), .val (.int i2), .val (.int i3), .val (.int i4), .val (.int i5), .val (.int (i0 &&& (3 : Int32))), .unset, .unset, .unset, .unset, .unset] [(.int ((i0.toUInt32 >>> ((2 : Int32) &&& 31).toUInt32).toInt32))])) (fun t k => XS.iushr X0.here hx rfl (hb hby at_7) rfl k) ?_
  refine own_by (B := s₁.setTop (mkF m 10 #[.val (.int i0), .val (.int i1), .val (.int i2), .val (.int i3), .val (.int i4), .val (.int i5), .val (.int (i0 &&& (3 : Int32))), .unset, .unset, .unset, .unset, .unset] [(.int (7 : Int32)), (.int ((i0.toUInt32 >>> ((2 : Int32) &&& 31).toUInt32).toInt32))])) (fun t k => XS.bipush X0.here hx rfl (hb hby at_8) k) ?_
  refine own_by (B := s₁.setTop (mkF m 11 #[.val (.int i0), .val (.int i1), .val (.int i2), .val (.int i3), .val (.int i4), .val (.int i5), .val (.int (i0 &&& (3 : Int32))), .unset, .unset, .unset, .unset, .unset] [(.int (((i0.toUInt32 >>> ((2 : Int32) &&& 31).toUInt32).toInt32) &&& (7 : Int32)))])) (fun t k => XS.iand X0.here hx rfl (hb hby at_10) rfl k) ?_
  refine own_by (B := s₁.setTop (mkF m 12 #[.val (.int i0), .val (.int i1), .val (.int i2), .val (.int i3), .val (.int i4), .val (.int i5), .val (.int (i0 &&& (3 : Int32))), .unset, .unset, .unset, .unset, .unset] [(.int (5 : Int32)), (.int (((i0.toUInt32 >>> ((2 : Int32) &&& 31).toUInt32).toInt32) &&& (7 : Int32)))])) (fun t k => XS.iconst X0.here hx rfl (hb hby at_11) k) ?_
  refine own_by (B := s₁.setTop (mkF m 13 #[.val (.int i0), .val (.int i1), .val (.int i2), .val (.int i3), .val (.int i4), .val (.int i5), .val (.int (i0 &&& (3 : Int32))), .unset, .unset, .unset, .unset, .unset] [(.int ((((i0.toUInt32 >>> ((2 : Int32) &&& 31).toUInt32).toInt32) &&& (7 : Int32)) % (5 : Int32)))])) (fun t k => iremM (g := (mkF m 12 #[.val (.int i0), .val (.int i1), .val (.int i2), .val (.int i3), .val (.int i4), .val (.int i5), .val (.int (i0 &&& (3 : Int32))), .unset, .unset, .unset, .unset, .unset] [(.int (5 : Int32)), (.int (((i0.toUInt32 >>> ((2 : Int32) &&& 31).toUInt32).toInt32) &&& (7 : Int32)))])) X0 hx rfl (hb hby at_12) rfl (by decide) k) ?_
  refine own_by (B := s₁.setTop (mkF m 15 #[.val (.int i0), .val (.int i1), .val (.int i2), .val (.int i3), .val (.int i4), .val (.int i5), .val (.int (i0 &&& (3 : Int32))), .val (.int ((((i0.toUInt32 >>> ((2 : Int32) &&& 31).toUInt32).toInt32) &&& (7 : Int32)) % (5 : Int32))), .unset, .unset, .unset, .unset] [])) (fun t k => XS.istore X0.here hx rfl (hb hby at_13) rfl (l' := #[.val (.int i0), .val (.int i1), .val (.int i2), .val (.int i3), .val (.int i4), .val (.int i5), .val (.int (i0 &&& (3 : Int32))), .val (.int ((((i0.toUInt32 >>> ((2 : Int32) &&& 31).toUInt32).toInt32) &&& (7 : Int32)) % (5 : Int32))), .unset, .unset, .unset, .unset]) rfl k) ?_
  refine own_by (B := s₁.setTop (mkF m 17 #[.val (.int i0), .val (.int i1), .val (.int i2), .val (.int i3), .val (.int i4), .val (.int i5), .val (.int (i0 &&& (3 : Int32))), .val (.int ((((i0.toUInt32 >>> ((2 : Int32) &&& 31).toUInt32).toInt32) &&& (7 : Int32)) % (5 : Int32))), .unset, .unset, .unset, .unset] [(.int i5)])) (fun t k => XS.iload X0.here hx rfl (hb hby at_15) rfl k) ?_
  refine own_by (B := s₁.setTop (mkF m 19 #[.val (.int i0), .val (.int i1), .val (.int i2), .val (.int i3), .val (.int i4), .val (.int i5), .val (.int (i0 &&& (3 : Int32))), .val (.int ((((i0.toUInt32 >>> ((2 : Int32) &&& 31).toUInt32).toInt32) &&& (7 : Int32)) % (5 : Int32))), .unset, .unset, .unset, .unset] [(.int (1073741823 : Int32)), (.int i5)])) (fun t k => X0.ldcInt hx hown (mvT hZ (hw _ (List.mem_of_getElem? (i := 0) rfl))) (g := (mkF m 17 #[.val (.int i0), .val (.int i1), .val (.int i2), .val (.int i3), .val (.int i4), .val (.int i5), .val (.int (i0 &&& (3 : Int32))), .val (.int ((((i0.toUInt32 >>> ((2 : Int32) &&& 31).toUInt32).toInt32) &&& (7 : Int32)) % (5 : Int32))), .unset, .unset, .unset, .unset] [(.int i5)])) rfl (hb hby at_17) _ k) ?_
  refine own_by (B := s₁.setTop (mkF m 20 #[.val (.int i0), .val (.int i1), .val (.int i2), .val (.int i3), .val (.int i4), .val (.int i5), .val (.int (i0 &&& (3 : Int32))), .val (.int ((((i0.toUInt32 >>> ((2 : Int32) &&& 31).toUInt32).toInt32) &&& (7 : Int32)) % (5 : Int32))), .unset, .unset, .unset, .unset] [(.int (i5 &&& (1073741823 : Int32)))])) (fun t k => XS.iand X0.here hx rfl (hb hby at_19) rfl k) ?_
  refine own_by (B := s₁.setTop (mkF m 22 #[.val (.int i0), .val (.int i1), .val (.int i2), .val (.int i3), .val (.int i4), .val (.int i5), .val (.int (i0 &&& (3 : Int32))), .val (.int ((((i0.toUInt32 >>> ((2 : Int32) &&& 31).toUInt32).toInt32) &&& (7 : Int32)) % (5 : Int32))), .val (.int (i5 &&& (1073741823 : Int32))), .unset, .unset, .unset] [])) (fun t k => XS.istore X0.here hx rfl (hb hby at_20) rfl (l' := #[.val (.int i0), .val (.int i1), .val (.int i2), .val (.int i3), .val (.int i4), .val (.int i5), .val (.int (i0 &&& (3 : Int32))), .val (.int ((((i0.toUInt32 >>> ((2 : Int32) &&& 31).toUInt32).toInt32) &&& (7 : Int32)) % (5 : Int32))), .val (.int (i5 &&& (1073741823 : Int32))), .unset, .unset, .unset]) rfl k) ?_
  obtain ⟨cap, hcap, hce⟩ := own_cap i0
  rw [show (i0 &&& (3 : Int32)) = (Int32.ofNat cap) from hce]
  rcases own_cnt i0 with hq | hq | hq | hq | hq
  · rw [hq]
    obtain ⟨T1, h1, X1, e1, E1, A1, D1, -, st1⟩ := newO X0 hx hZ hown (hw _ (List.mem_of_getElem? (i := 1) rfl)) (hw _ (List.mem_of_getElem? (i := 2) rfl)) (hw _ (List.mem_of_getElem? (i := 3) rfl)) e0 (g := (mkF m 22 #[.val (.int i0), .val (.int i1), .val (.int i2), .val (.int i3), .val (.int i4), .val (.int i5), .val (.int (Int32.ofNat cap)), .val (.int (0 : Int32)), .val (.int (i5 &&& (1073741823 : Int32))), .unset, .unset, .unset] [])) rfl (hb hby at_22) (by decide) (by decide)
    obtain ⟨b1, gq1⟩ : ∃ z, z = h0.size := ⟨_, rfl⟩
    rw [← gq1] at A1 D1 st1
    have g_b1 : n0 ≤ b1 := Nat.le_trans Zs (Nat.le_of_eq gq1.symm)
    have Zs := Nat.le_trans Zs E1.1
    have E_b1 := A1
    have F_entries_b1 : Fld Z h1 b1 "com/example/surrogate/surrogate/index/Entries" "entries" "[I" .null := D1 (Or.inl (hw _ (List.mem_of_getElem? (i := 12) rfl))) (ty := (.array .int)) (by decide)
    have F_size_b1 : Fld Z h1 b1 "com/example/surrogate/surrogate/index/Entries" "size" "I" (.int (0 : Int32)) := D1 (Or.inl (hw _ (List.mem_of_getElem? (i := 19) rfl))) (ty := .int) (by decide)
    refine own_by (B := T1.setTop (mkF m 25 #[.val (.int i0), .val (.int i1), .val (.int i2), .val (.int i3), .val (.int i4), .val (.int i5), .val (.int (Int32.ofNat cap)), .val (.int (0 : Int32)), .val (.int (i5 &&& (1073741823 : Int32))), .unset, .unset, .unset] [(.ref b1)])) st1 ?_
    refine own_by (B := T1.setTop (mkF m 26 #[.val (.int i0), .val (.int i1), .val (.int i2), .val (.int i3), .val (.int i4), .val (.int i5), .val (.int (Int32.ofNat cap)), .val (.int (0 : Int32)), .val (.int (i5 &&& (1073741823 : Int32))), .unset, .unset, .unset] [(.ref b1), (.ref b1)])) (fun t k => XS.dup X1.here hx rfl (hb hby at_25) rfl rfl k) ?_
    refine own_by (B := T1.setTop (mkF m 28 #[.val (.int i0), .val (.int i1), .val (.int i2), .val (.int i3), .val (.int i4), .val (.int i5), .val (.int (Int32.ofNat cap)), .val (.int (0 : Int32)), .val (.int (i5 &&& (1073741823 : Int32))), .unset, .unset, .unset] [(.int (Int32.ofNat cap)), (.ref b1), (.ref b1)])) (fun t k => XS.iload X1.here hx rfl (hb hby at_26) rfl k) ?_
    obtain ⟨_, _, ⟨T2, L2, k2, n2⟩, -, X2, ⟨Lc2, hQ2, l2, y2, z2⟩, st2⟩ := X1.specialBack hx (y := (⟨"com/example/surrogate/surrogate/index/Entries", "<init>", "(I)V"⟩ : MethodName)) rfl hown (mvT hZ (hw _ (List.mem_of_getElem? (i := 4) rfl))) (mvT hZ (hw _ (List.mem_of_getElem? (i := 5) rfl))) (mvT hZ (hw _ (List.mem_of_getElem? (i := 6) rfl))) (by decide) (backOf (W := 1) (rmI l Z a0 hw [] b1 cap h1 n0 Zs E_b1 F_size_b1 F_entries_b1 g_b1 hcap) hZ (hw _ (List.mem_of_getElem? (i := 6) rfl)) (hw _ (List.mem_of_getElem? (i := 3) rfl)) (by decide) (by decide)) (g := (mkF m 28 #[.val (.int i0), .val (.int i1), .val (.int i2), .val (.int i3), .val (.int i4), .val (.int i5), .val (.int (Int32.ofNat cap)), .val (.int (0 : Int32)), .val (.int (i5 &&& (1073741823 : Int32))), .unset, .unset, .unset] [(.int (Int32.ofNat cap)), (.ref b1), (.ref b1)])) rfl (by rw [hml]; rfl) (Steps.refl _) (a := b1) (argsL := [(.int (Int32.ofNat cap))]) (rest := [(.ref b1)]) (lenOf own_pd2 rfl) rfl (by show 2 * 0 + _ ≤ _; exact Nat.le_of_eq rfl) (hb hby at_28) (fun _ _ => ⟨rfl, e1, (by decide : 1 + 1 ≤ _), (by decide : 2 + 6 ≤ _)⟩)
    dsimp only [Pt.U, Pt.locs, Pt.cells, Pt.slots] at X2 l2 y2 z2 st2 hQ2
    subst l2 y2 z2
    obtain ⟨rfl, Nq2, Kc2, Fs2, b2, f2, g_b2, ne_b1_b2, Fe2, Vc2, hz2⟩ := hQ2
    have Nf := Fr.app Nf Nq2
    have E_b1 := E_b1.keep Kc2
    have Zs := Nat.le_trans Zs Kc2.1
    have F_size_b1 := Fs2
    have F_entries_b1 := Fe2
    have V_b2 := Vc2
    have hint2 : ∀ i, i < 2 * cap → ∃ x, f2 i = .int x := fun i _ => ⟨_, hz2 i⟩
    refine own_by (B := T2.setTop (mkF m 31 #[.val (.int i0), .val (.int i1), .val (.int i2), .val (.int i3), .val (.int i4), .val (.int i5), .val (.int (Int32.ofNat cap)), .val (.int (0 : Int32)), .val (.int (i5 &&& (1073741823 : Int32))), .unset, .unset, .unset] [(.ref b1)])) (fun t k => st2.trans k) ?_
    refine own_by (B := T2.setTop (mkF m 33 #[.val (.int i0), .val (.int i1), .val (.int i2), .val (.int i3), .val (.int i4), .val (.int i5), .val (.int (Int32.ofNat cap)), .val (.int (0 : Int32)), .val (.int (i5 &&& (1073741823 : Int32))), .val (.ref b1), .unset, .unset] [])) (fun t k => XS.astore X2.here hx rfl (hb hby at_31) rfl rfl (l' := #[.val (.int i0), .val (.int i1), .val (.int i2), .val (.int i3), .val (.int i4), .val (.int i5), .val (.int (Int32.ofNat cap)), .val (.int (0 : Int32)), .val (.int (i5 &&& (1073741823 : Int32))), .val (.ref b1), .unset, .unset]) rfl k) ?_
    refine own_by (B := T2.setTop (mkF m 35 #[.val (.int i0), .val (.int i1), .val (.int i2), .val (.int i3), .val (.int i4), .val (.int i5), .val (.int (Int32.ofNat cap)), .val (.int (0 : Int32)), .val (.int (i5 &&& (1073741823 : Int32))), .val (.ref b1), .unset, .unset] [(.int (0 : Int32))])) (fun t k => XS.iload X2.here hx rfl (hb hby at_33) rfl k) ?_
    refine own_by (B := T2.setTop (mkF m 46 #[.val (.int i0), .val (.int i1), .val (.int i2), .val (.int i3), .val (.int i4), .val (.int i5), .val (.int (Int32.ofNat cap)), .val (.int (0 : Int32)), .val (.int (i5 &&& (1073741823 : Int32))), .val (.ref b1), .unset, .unset] [])) (fun t k => XS.ifYes X2.here hx rfl (pc0 := 35) (pc' := 46) rfl (hb hby at_35) rfl ((if0 _ _).trans (flt (by decide)).2.2.2) (by decide) (by decide) k) ?_
    refine own_by (B := T2.setTop (mkF m 48 #[.val (.int i0), .val (.int i1), .val (.int i2), .val (.int i3), .val (.int i4), .val (.int i5), .val (.int (Int32.ofNat cap)), .val (.int (0 : Int32)), .val (.int (i5 &&& (1073741823 : Int32))), .val (.ref b1), .unset, .unset] [(.int (0 : Int32))])) (fun t k => XS.iload X2.here hx rfl (hb hby at_46) rfl k) ?_
    refine own_by (B := T2.setTop (mkF m 49 #[.val (.int i0), .val (.int i1), .val (.int i2), .val (.int i3), .val (.int i4), .val (.int i5), .val (.int (Int32.ofNat cap)), .val (.int (0 : Int32)), .val (.int (i5 &&& (1073741823 : Int32))), .val (.ref b1), .unset, .unset] [(.int (1 : Int32)), (.int (0 : Int32))])) (fun t k => XS.iconst X2.here hx rfl (hb hby at_48) k) ?_
    refine own_by (B := T2.setTop (mkF m 62 #[.val (.int i0), .val (.int i1), .val (.int i2), .val (.int i3), .val (.int i4), .val (.int i5), .val (.int (Int32.ofNat cap)), .val (.int (0 : Int32)), .val (.int (i5 &&& (1073741823 : Int32))), .val (.ref b1), .unset, .unset] [])) (fun t k => XS.icmpYes X2.here hx rfl (pc0 := 49) (pc' := 62) rfl (hb hby at_49) rfl (flt (by decide)).2.2.2 (by decide) (by decide) k) ?_
    refine own_by (B := T2.setTop (mkF m 64 #[.val (.int i0), .val (.int i1), .val (.int i2), .val (.int i3), .val (.int i4), .val (.int i5), .val (.int (Int32.ofNat cap)), .val (.int (0 : Int32)), .val (.int (i5 &&& (1073741823 : Int32))), .val (.ref b1), .unset, .unset] [(.int (0 : Int32))])) (fun t k => XS.iload X2.here hx rfl (hb hby at_62) rfl k) ?_
    refine own_by (B := T2.setTop (mkF m 65 #[.val (.int i0), .val (.int i1), .val (.int i2), .val (.int i3), .val (.int i4), .val (.int i5), .val (.int (Int32.ofNat cap)), .val (.int (0 : Int32)), .val (.int (i5 &&& (1073741823 : Int32))), .val (.ref b1), .unset, .unset] [(.int (2 : Int32)), (.int (0 : Int32))])) (fun t k => XS.iconst X2.here hx rfl (hb hby at_64) k) ?_
    refine own_by (B := T2.setTop (mkF m 78 #[.val (.int i0), .val (.int i1), .val (.int i2), .val (.int i3), .val (.int i4), .val (.int i5), .val (.int (Int32.ofNat cap)), .val (.int (0 : Int32)), .val (.int (i5 &&& (1073741823 : Int32))), .val (.ref b1), .unset, .unset] [])) (fun t k => XS.icmpYes X2.here hx rfl (pc0 := 65) (pc' := 78) rfl (hb hby at_65) rfl (flt (by decide)).2.2.2 (by decide) (by decide) k) ?_
    refine own_by (B := T2.setTop (mkF m 80 #[.val (.int i0), .val (.int i1), .val (.int i2), .val (.int i3), .val (.int i4), .val (.int i5), .val (.int (Int32.ofNat cap)), .val (.int (0 : Int32)), .val (.int (i5 &&& (1073741823 : Int32))), .val (.ref b1), .unset, .unset] [(.int (0 : Int32))])) (fun t k => XS.iload X2.here hx rfl (hb hby at_78) rfl k) ?_
    refine own_by (B := T2.setTop (mkF m 81 #[.val (.int i0), .val (.int i1), .val (.int i2), .val (.int i3), .val (.int i4), .val (.int i5), .val (.int (Int32.ofNat cap)), .val (.int (0 : Int32)), .val (.int (i5 &&& (1073741823 : Int32))), .val (.ref b1), .unset, .unset] [(.int (3 : Int32)), (.int (0 : Int32))])) (fun t k => XS.iconst X2.here hx rfl (hb hby at_80) k) ?_
    refine own_by (B := T2.setTop (mkF m 95 #[.val (.int i0), .val (.int i1), .val (.int i2), .val (.int i3), .val (.int i4), .val (.int i5), .val (.int (Int32.ofNat cap)), .val (.int (0 : Int32)), .val (.int (i5 &&& (1073741823 : Int32))), .val (.ref b1), .unset, .unset] [])) (fun t k => XS.icmpYes X2.here hx rfl (pc0 := 81) (pc' := 95) rfl (hb hby at_81) rfl (flt (by decide)).2.2.2 (by decide) (by decide) k) ?_
    refine own_by (B := T2.setTop (mkF m 97 #[.val (.int i0), .val (.int i1), .val (.int i2), .val (.int i3), .val (.int i4), .val (.int i5), .val (.int (Int32.ofNat cap)), .val (.int (0 : Int32)), .val (.int (i5 &&& (1073741823 : Int32))), .val (.ref b1), .unset, .unset] [(.ref b1)])) (fun t k => XS.aload X2.here hx rfl (hb hby at_95) rfl rfl k) ?_
    obtain ⟨cq3, kq3, q3a, q3b, q3c⟩ := isOf hZ rfl E_b1
    obtain ⟨_, _, ⟨T3, L3, k3, n3⟩, -, X3, ⟨Lc3, hQ3, l3, y3, z3⟩, st3⟩ := X2.virtualBack hx (y := (⟨"com/example/surrogate/surrogate/index/Entries", "frequencies", "()[I"⟩ : MethodName)) (z := (⟨"com/example/surrogate/surrogate/index/Entries", "frequencies", "()[I"⟩ : MethodName)) hown (mvT hZ (hw _ (List.mem_of_getElem? (i := 13) rfl))) (mvT hZ (hw _ (List.mem_of_getElem? (i := 14) rfl))) (notFace_of_selects (args := #[]) (mvT hZ (hw _ (List.mem_of_getElem? (i := 16) rfl)))) (mvT hZ (hw _ (List.mem_of_getElem? (i := 16) rfl))) (mvT hZ (hw _ (List.mem_of_getElem? (i := 15) rfl))) (by decide) (backOf (W := 0) (rmF0 l Z a0 hw [] b1 b2 (2 * cap) f2  T2.heap n0 Zs F_size_b1 F_entries_b1 V_b2 ne_b1_b2 (by omega) (by omega) ) hZ (hw _ (List.mem_of_getElem? (i := 17) rfl)) (hw _ (List.mem_of_getElem? (i := 3) rfl)) (by decide) (by decide)) q3a q3c (g := (mkF m 97 #[.val (.int i0), .val (.int i1), .val (.int i2), .val (.int i3), .val (.int i4), .val (.int i5), .val (.int (Int32.ofNat cap)), .val (.int (0 : Int32)), .val (.int (i5 &&& (1073741823 : Int32))), .val (.ref b1), .unset, .unset] [(.ref b1)])) rfl (by rw [hml]; rfl) (Steps.refl _) (argsL := []) (rest := []) (lenOf own_pd3 rfl) rfl (by show 2 * 0 + _ ≤ _; exact Nat.le_of_eq rfl) (hb hby at_97) (fun _ _ => ⟨rfl, rfl, (by decide : 2 + 1 ≤ _), (by decide : 8 + 0 ≤ _)⟩)
    dsimp only [Pt.U, Pt.locs, Pt.cells, Pt.slots] at X3 l3 y3 z3 st3 hQ3
    subst l3 y3 z3
    obtain ⟨rfl, Nq3, Kc3, g3, Vc3⟩ := hQ3
    have Nf := Fr.app Nf Nq3
    obtain ⟨b3, gq3⟩ : ∃ z, z = T2.heap.size := ⟨_, rfl⟩
    rw [← gq3] at Vc3 st3
    have ne_b1_b3 : b1 ≠ b3 := Nat.ne_of_lt (Nat.lt_of_lt_of_le E_b1.lt (Nat.le_of_eq gq3.symm))
    have ne_b2_b3 : b2 ≠ b3 := Nat.ne_of_lt (Nat.lt_of_lt_of_le V_b2.lt (Nat.le_of_eq gq3.symm))
    have g_b3 : n0 ≤ b3 := Nat.le_trans Zs (Nat.le_of_eq gq3.symm)
    have E_b1 := E_b1.keep Kc3
    have F_size_b1 := F_size_b1.keep Kc3 nin0
    have F_entries_b1 := F_entries_b1.keep Kc3 nin0
    have V_b2 := V_b2.keep Kc3 nin0
    have Zs := Nat.le_trans Zs Kc3.1
    have V_b3 := Vc3
    refine own_by (B := T3.setTop (mkF m 100 #[.val (.int i0), .val (.int i1), .val (.int i2), .val (.int i3), .val (.int i4), .val (.int i5), .val (.int (Int32.ofNat cap)), .val (.int (0 : Int32)), .val (.int (i5 &&& (1073741823 : Int32))), .val (.ref b1), .unset, .unset] [(.ref b3)])) (fun t k => st3.trans k) ?_
    refine own_by (B := T3.setTop (mkF m 102 #[.val (.int i0), .val (.int i1), .val (.int i2), .val (.int i3), .val (.int i4), .val (.int i5), .val (.int (Int32.ofNat cap)), .val (.int (0 : Int32)), .val (.int (i5 &&& (1073741823 : Int32))), .val (.ref b1), .val (.ref b3), .unset] [])) (fun t k => XS.astore X3.here hx rfl (hb hby at_100) rfl rfl (l' := #[.val (.int i0), .val (.int i1), .val (.int i2), .val (.int i3), .val (.int i4), .val (.int i5), .val (.int (Int32.ofNat cap)), .val (.int (0 : Int32)), .val (.int (i5 &&& (1073741823 : Int32))), .val (.ref b1), .val (.ref b3), .unset]) rfl k) ?_
    refine own_by (B := T3.setTop (mkF m 104 #[.val (.int i0), .val (.int i1), .val (.int i2), .val (.int i3), .val (.int i4), .val (.int i5), .val (.int (Int32.ofNat cap)), .val (.int (0 : Int32)), .val (.int (i5 &&& (1073741823 : Int32))), .val (.ref b1), .val (.ref b3), .unset] [(.ref b3)])) (fun t k => XS.aload X3.here hx rfl (hb hby at_102) rfl rfl k) ?_
    obtain ⟨cl4, Ar4, Sz4, Ng4, -⟩ := id V_b3
    refine own_by (B := T3.setTop (mkF m 105 #[.val (.int i0), .val (.int i1), .val (.int i2), .val (.int i3), .val (.int i4), .val (.int i5), .val (.int (Int32.ofNat cap)), .val (.int (0 : Int32)), .val (.int (i5 &&& (1073741823 : Int32))), .val (.ref b1), .val (.ref b3), .unset] [(.int (0 : Int32))])) (fun t k => X3.arraylength hx Ar4.1 (State.isArrayOf_alike hZ.alike Ar4.2.1) (g := (mkF m 104 #[.val (.int i0), .val (.int i1), .val (.int i2), .val (.int i3), .val (.int i4), .val (.int i5), .val (.int (Int32.ofNat cap)), .val (.int (0 : Int32)), .val (.int (i5 &&& (1073741823 : Int32))), .val (.ref b1), .val (.ref b3), .unset] [(.ref b3)])) rfl rfl (hb hby at_104) _ (by rw [len_of Sz4 Ng4]; exact k)) ?_
    refine own_by (B := T3.setTop (mkF m 107 #[.val (.int i0), .val (.int i1), .val (.int i2), .val (.int i3), .val (.int i4), .val (.int i5), .val (.int (Int32.ofNat cap)), .val (.int (0 : Int32)), .val (.int (i5 &&& (1073741823 : Int32))), .val (.ref b1), .val (.ref b3), .unset] [(.int (0 : Int32)), (.int (0 : Int32))])) (fun t k => XS.iload X3.here hx rfl (hb hby at_105) rfl k) ?_
    refine own_by (B := T3.setTop (mkF m 112 #[.val (.int i0), .val (.int i1), .val (.int i2), .val (.int i3), .val (.int i4), .val (.int i5), .val (.int (Int32.ofNat cap)), .val (.int (0 : Int32)), .val (.int (i5 &&& (1073741823 : Int32))), .val (.ref b1), .val (.ref b3), .unset] [])) (fun t k => XS.icmpYes X3.here hx rfl (pc0 := 107) (pc' := 112) rfl (hb hby at_107) rfl (teq (by decide)).1 (by decide) (by decide) k) ?_
    refine own_by (B := T3.setTop (mkF m 114 #[.val (.int i0), .val (.int i1), .val (.int i2), .val (.int i3), .val (.int i4), .val (.int i5), .val (.int (Int32.ofNat cap)), .val (.int (0 : Int32)), .val (.int (i5 &&& (1073741823 : Int32))), .val (.ref b1), .val (.ref b3), .unset] [(.int (0 : Int32))])) (fun t k => XS.iload X3.here hx rfl (hb hby at_112) rfl k) ?_
    refine own_by (B := T3.setTop (mkF m 127 #[.val (.int i0), .val (.int i1), .val (.int i2), .val (.int i3), .val (.int i4), .val (.int i5), .val (.int (Int32.ofNat cap)), .val (.int (0 : Int32)), .val (.int (i5 &&& (1073741823 : Int32))), .val (.ref b1), .val (.ref b3), .unset] [])) (fun t k => XS.ifYes X3.here hx rfl (pc0 := 114) (pc' := 127) rfl (hb hby at_114) rfl ((if0 _ _).trans (flt (by decide)).2.2.2) (by decide) (by decide) k) ?_
    refine own_by (B := T3.setTop (mkF m 129 #[.val (.int i0), .val (.int i1), .val (.int i2), .val (.int i3), .val (.int i4), .val (.int i5), .val (.int (Int32.ofNat cap)), .val (.int (0 : Int32)), .val (.int (i5 &&& (1073741823 : Int32))), .val (.ref b1), .val (.ref b3), .unset] [(.int (0 : Int32))])) (fun t k => XS.iload X3.here hx rfl (hb hby at_127) rfl k) ?_
    refine own_by (B := T3.setTop (mkF m 130 #[.val (.int i0), .val (.int i1), .val (.int i2), .val (.int i3), .val (.int i4), .val (.int i5), .val (.int (Int32.ofNat cap)), .val (.int (0 : Int32)), .val (.int (i5 &&& (1073741823 : Int32))), .val (.ref b1), .val (.ref b3), .unset] [(.int (1 : Int32)), (.int (0 : Int32))])) (fun t k => XS.iconst X3.here hx rfl (hb hby at_129) k) ?_
    refine own_by (B := T3.setTop (mkF m 143 #[.val (.int i0), .val (.int i1), .val (.int i2), .val (.int i3), .val (.int i4), .val (.int i5), .val (.int (Int32.ofNat cap)), .val (.int (0 : Int32)), .val (.int (i5 &&& (1073741823 : Int32))), .val (.ref b1), .val (.ref b3), .unset] [])) (fun t k => XS.icmpYes X3.here hx rfl (pc0 := 130) (pc' := 143) rfl (hb hby at_130) rfl (flt (by decide)).2.2.2 (by decide) (by decide) k) ?_
    refine own_by (B := T3.setTop (mkF m 145 #[.val (.int i0), .val (.int i1), .val (.int i2), .val (.int i3), .val (.int i4), .val (.int i5), .val (.int (Int32.ofNat cap)), .val (.int (0 : Int32)), .val (.int (i5 &&& (1073741823 : Int32))), .val (.ref b1), .val (.ref b3), .unset] [(.int (0 : Int32))])) (fun t k => XS.iload X3.here hx rfl (hb hby at_143) rfl k) ?_
    refine own_by (B := T3.setTop (mkF m 146 #[.val (.int i0), .val (.int i1), .val (.int i2), .val (.int i3), .val (.int i4), .val (.int i5), .val (.int (Int32.ofNat cap)), .val (.int (0 : Int32)), .val (.int (i5 &&& (1073741823 : Int32))), .val (.ref b1), .val (.ref b3), .unset] [(.int (2 : Int32)), (.int (0 : Int32))])) (fun t k => XS.iconst X3.here hx rfl (hb hby at_145) k) ?_
    refine own_by (B := T3.setTop (mkF m 159 #[.val (.int i0), .val (.int i1), .val (.int i2), .val (.int i3), .val (.int i4), .val (.int i5), .val (.int (Int32.ofNat cap)), .val (.int (0 : Int32)), .val (.int (i5 &&& (1073741823 : Int32))), .val (.ref b1), .val (.ref b3), .unset] [])) (fun t k => XS.icmpYes X3.here hx rfl (pc0 := 146) (pc' := 159) rfl (hb hby at_146) rfl (flt (by decide)).2.2.2 (by decide) (by decide) k) ?_
    refine own_by (B := T3.setTop (mkF m 161 #[.val (.int i0), .val (.int i1), .val (.int i2), .val (.int i3), .val (.int i4), .val (.int i5), .val (.int (Int32.ofNat cap)), .val (.int (0 : Int32)), .val (.int (i5 &&& (1073741823 : Int32))), .val (.ref b1), .val (.ref b3), .unset] [(.int (0 : Int32))])) (fun t k => XS.iload X3.here hx rfl (hb hby at_159) rfl k) ?_
    refine own_by (B := T3.setTop (mkF m 162 #[.val (.int i0), .val (.int i1), .val (.int i2), .val (.int i3), .val (.int i4), .val (.int i5), .val (.int (Int32.ofNat cap)), .val (.int (0 : Int32)), .val (.int (i5 &&& (1073741823 : Int32))), .val (.ref b1), .val (.ref b3), .unset] [(.int (3 : Int32)), (.int (0 : Int32))])) (fun t k => XS.iconst X3.here hx rfl (hb hby at_161) k) ?_
    refine own_by (B := T3.setTop (mkF m 176 #[.val (.int i0), .val (.int i1), .val (.int i2), .val (.int i3), .val (.int i4), .val (.int i5), .val (.int (Int32.ofNat cap)), .val (.int (0 : Int32)), .val (.int (i5 &&& (1073741823 : Int32))), .val (.ref b1), .val (.ref b3), .unset] [])) (fun t k => XS.icmpYes X3.here hx rfl (pc0 := 162) (pc' := 176) rfl (hb hby at_162) rfl (flt (by decide)).2.2.2 (by decide) (by decide) k) ?_
    refine own_by (B := T3.setTop (mkF m 178 #[.val (.int i0), .val (.int i1), .val (.int i2), .val (.int i3), .val (.int i4), .val (.int i5), .val (.int (Int32.ofNat cap)), .val (.int (0 : Int32)), .val (.int (i5 &&& (1073741823 : Int32))), .val (.ref b1), .val (.ref b3), .unset] [(.ref b1)])) (fun t k => XS.aload X3.here hx rfl (hb hby at_176) rfl rfl k) ?_
    obtain ⟨cq5, kq5, q5a, q5b, q5c⟩ := isOf hZ rfl E_b1
    obtain ⟨_, _, ⟨T5, L5, k5, n5⟩, -, X5, ⟨Lc5, hQ5, l5, y5, z5⟩, st5⟩ := X3.virtualBack hx (y := (⟨"com/example/surrogate/surrogate/index/Entries", "frequencies", "()[I"⟩ : MethodName)) (z := (⟨"com/example/surrogate/surrogate/index/Entries", "frequencies", "()[I"⟩ : MethodName)) hown (mvT hZ (hw _ (List.mem_of_getElem? (i := 13) rfl))) (mvT hZ (hw _ (List.mem_of_getElem? (i := 14) rfl))) (notFace_of_selects (args := #[]) (mvT hZ (hw _ (List.mem_of_getElem? (i := 16) rfl)))) (mvT hZ (hw _ (List.mem_of_getElem? (i := 16) rfl))) (mvT hZ (hw _ (List.mem_of_getElem? (i := 15) rfl))) (by decide) (backOf (W := 0) (rmF0 l Z a0 hw [] b1 b2 (2 * cap) f2  T3.heap n0 Zs F_size_b1 F_entries_b1 V_b2 ne_b1_b2 (by omega) (by omega) ) hZ (hw _ (List.mem_of_getElem? (i := 17) rfl)) (hw _ (List.mem_of_getElem? (i := 3) rfl)) (by decide) (by decide)) q5a q5c (g := (mkF m 178 #[.val (.int i0), .val (.int i1), .val (.int i2), .val (.int i3), .val (.int i4), .val (.int i5), .val (.int (Int32.ofNat cap)), .val (.int (0 : Int32)), .val (.int (i5 &&& (1073741823 : Int32))), .val (.ref b1), .val (.ref b3), .unset] [(.ref b1)])) rfl (by rw [hml]; rfl) (Steps.refl _) (argsL := []) (rest := []) (lenOf own_pd3 rfl) rfl (by show 2 * 0 + _ ≤ _; exact Nat.le_of_eq rfl) (hb hby at_178) (fun _ _ => ⟨rfl, rfl, (by decide : 3 + 1 ≤ _), (by decide : 8 + 0 ≤ _)⟩)
    dsimp only [Pt.U, Pt.locs, Pt.cells, Pt.slots] at X5 l5 y5 z5 st5 hQ5
    subst l5 y5 z5
    obtain ⟨rfl, Nq5, Kc5, g5, Vc5⟩ := hQ5
    have Nf := Fr.app Nf Nq5
    obtain ⟨b5, gq5⟩ : ∃ z, z = T3.heap.size := ⟨_, rfl⟩
    rw [← gq5] at Vc5 st5
    have ne_b1_b5 : b1 ≠ b5 := Nat.ne_of_lt (Nat.lt_of_lt_of_le E_b1.lt (Nat.le_of_eq gq5.symm))
    have ne_b2_b5 : b2 ≠ b5 := Nat.ne_of_lt (Nat.lt_of_lt_of_le V_b2.lt (Nat.le_of_eq gq5.symm))
    have ne_b3_b5 : b3 ≠ b5 := Nat.ne_of_lt (Nat.lt_of_lt_of_le V_b3.lt (Nat.le_of_eq gq5.symm))
    have g_b5 : n0 ≤ b5 := Nat.le_trans Zs (Nat.le_of_eq gq5.symm)
    have E_b1 := E_b1.keep Kc5
    have F_size_b1 := F_size_b1.keep Kc5 nin0
    have F_entries_b1 := F_entries_b1.keep Kc5 nin0
    have V_b2 := V_b2.keep Kc5 nin0
    have V_b3 := V_b3.keep Kc5 nin0
    have Zs := Nat.le_trans Zs Kc5.1
    have V_b5 := Vc5
    refine own_by (B := T5.setTop (mkF m 181 #[.val (.int i0), .val (.int i1), .val (.int i2), .val (.int i3), .val (.int i4), .val (.int i5), .val (.int (Int32.ofNat cap)), .val (.int (0 : Int32)), .val (.int (i5 &&& (1073741823 : Int32))), .val (.ref b1), .val (.ref b3), .unset] [(.ref b5)])) (fun t k => st5.trans k) ?_
    refine own_by (B := T5.setTop (mkF m 183 #[.val (.int i0), .val (.int i1), .val (.int i2), .val (.int i3), .val (.int i4), .val (.int i5), .val (.int (Int32.ofNat cap)), .val (.int (0 : Int32)), .val (.int (i5 &&& (1073741823 : Int32))), .val (.ref b1), .val (.ref b3), .val (.ref b5)] [])) (fun t k => XS.astore X5.here hx rfl (hb hby at_181) rfl rfl (l' := #[.val (.int i0), .val (.int i1), .val (.int i2), .val (.int i3), .val (.int i4), .val (.int i5), .val (.int (Int32.ofNat cap)), .val (.int (0 : Int32)), .val (.int (i5 &&& (1073741823 : Int32))), .val (.ref b1), .val (.ref b3), .val (.ref b5)]) rfl k) ?_
    refine own_by (B := T5.setTop (mkF m 185 #[.val (.int i0), .val (.int i1), .val (.int i2), .val (.int i3), .val (.int i4), .val (.int i5), .val (.int (Int32.ofNat cap)), .val (.int (0 : Int32)), .val (.int (i5 &&& (1073741823 : Int32))), .val (.ref b1), .val (.ref b3), .val (.ref b5)] [(.ref b5)])) (fun t k => XS.aload X5.here hx rfl (hb hby at_183) rfl rfl k) ?_
    refine own_by (B := T5.setTop (mkF m 187 #[.val (.int i0), .val (.int i1), .val (.int i2), .val (.int i3), .val (.int i4), .val (.int i5), .val (.int (Int32.ofNat cap)), .val (.int (0 : Int32)), .val (.int (i5 &&& (1073741823 : Int32))), .val (.ref b1), .val (.ref b3), .val (.ref b5)] [(.ref b3), (.ref b5)])) (fun t k => XS.aload X5.here hx rfl (hb hby at_185) rfl rfl k) ?_
    refine own_by (B := T5.setTop (mkF m 192 #[.val (.int i0), .val (.int i1), .val (.int i2), .val (.int i3), .val (.int i4), .val (.int i5), .val (.int (Int32.ofNat cap)), .val (.int (0 : Int32)), .val (.int (i5 &&& (1073741823 : Int32))), .val (.ref b1), .val (.ref b3), .val (.ref b5)] [])) (fun t k => Jvm.RoadKit.acmp (g := (mkF m 187 #[.val (.int i0), .val (.int i1), .val (.int i2), .val (.int i3), .val (.int i4), .val (.int i5), .val (.int (Int32.ofNat cap)), .val (.int (0 : Int32)), .val (.int (i5 &&& (1073741823 : Int32))), .val (.ref b1), .val (.ref b3), .val (.ref b5)] [(.ref b3), (.ref b5)])) X5 hx rfl rfl rfl (pc0 := 187) (pc' := 192) (same := false) rfl (hb hby at_187) rfl (decide_eq_false fun q => (Ne.symm ne_b3_b5) (Value.ref.inj q)) (by decide) (by decide) k) ?_
    refine own_by (B := T5.setTop (mkF m 194 #[.val (.int i0), .val (.int i1), .val (.int i2), .val (.int i3), .val (.int i4), .val (.int i5), .val (.int (Int32.ofNat cap)), .val (.int (0 : Int32)), .val (.int (i5 &&& (1073741823 : Int32))), .val (.ref b1), .val (.ref b3), .val (.ref b5)] [(.ref b5)])) (fun t k => XS.aload X5.here hx rfl (hb hby at_192) rfl rfl k) ?_
    obtain ⟨cl6, Ar6, Sz6, Ng6, -⟩ := id V_b5
    refine own_by (B := T5.setTop (mkF m 195 #[.val (.int i0), .val (.int i1), .val (.int i2), .val (.int i3), .val (.int i4), .val (.int i5), .val (.int (Int32.ofNat cap)), .val (.int (0 : Int32)), .val (.int (i5 &&& (1073741823 : Int32))), .val (.ref b1), .val (.ref b3), .val (.ref b5)] [(.int (0 : Int32))])) (fun t k => X5.arraylength hx Ar6.1 (State.isArrayOf_alike hZ.alike Ar6.2.1) (g := (mkF m 194 #[.val (.int i0), .val (.int i1), .val (.int i2), .val (.int i3), .val (.int i4), .val (.int i5), .val (.int (Int32.ofNat cap)), .val (.int (0 : Int32)), .val (.int (i5 &&& (1073741823 : Int32))), .val (.ref b1), .val (.ref b3), .val (.ref b5)] [(.ref b5)])) rfl rfl (hb hby at_194) _ (by rw [len_of Sz6 Ng6]; exact k)) ?_
    refine own_by (B := T5.setTop (mkF m 197 #[.val (.int i0), .val (.int i1), .val (.int i2), .val (.int i3), .val (.int i4), .val (.int i5), .val (.int (Int32.ofNat cap)), .val (.int (0 : Int32)), .val (.int (i5 &&& (1073741823 : Int32))), .val (.ref b1), .val (.ref b3), .val (.ref b5)] [(.int (0 : Int32)), (.int (0 : Int32))])) (fun t k => XS.iload X5.here hx rfl (hb hby at_195) rfl k) ?_
    refine own_by (B := T5.setTop (mkF m 202 #[.val (.int i0), .val (.int i1), .val (.int i2), .val (.int i3), .val (.int i4), .val (.int i5), .val (.int (Int32.ofNat cap)), .val (.int (0 : Int32)), .val (.int (i5 &&& (1073741823 : Int32))), .val (.ref b1), .val (.ref b3), .val (.ref b5)] [])) (fun t k => XS.icmpYes X5.here hx rfl (pc0 := 197) (pc' := 202) rfl (hb hby at_197) rfl (teq (by decide)).1 (by decide) (by decide) k) ?_
    refine own_by (B := T5.setTop (mkF m 203 #[.val (.int i0), .val (.int i1), .val (.int i2), .val (.int i3), .val (.int i4), .val (.int i5), .val (.int (Int32.ofNat cap)), .val (.int (0 : Int32)), .val (.int (i5 &&& (1073741823 : Int32))), .val (.ref b1), .val (.ref b3), .val (.ref b5)] [(.int (1 : Int32))])) (fun t k => XS.iconst X5.here hx rfl (hb hby at_202) k) ?_
    exact own_end X5 (v := some (.int (1 : Int32))) (fun h => by rw [Bd.returns] at h; cases h) (BodyLoose.notSynchronized Bd) (Q := (Q_rm0 Z i0 i1 i2 i3 i4 i5 h0 n0)) (fun fs hr => retN X5 hx (t := .boolean) Bd.returns (by simp) (hb hby at_203) hr) (show (Q_rm0 Z i0 i1 i2 i3 i4 i5 h0 n0) _ T5.heap _ from (⟨rfl, Nf⟩)) (by decide) (by decide)
  · rw [hq]
    obtain ⟨T7, h7, X7, e7, E7, A7, D7, -, st7⟩ := newO X0 hx hZ hown (hw _ (List.mem_of_getElem? (i := 1) rfl)) (hw _ (List.mem_of_getElem? (i := 2) rfl)) (hw _ (List.mem_of_getElem? (i := 3) rfl)) e0 (g := (mkF m 22 #[.val (.int i0), .val (.int i1), .val (.int i2), .val (.int i3), .val (.int i4), .val (.int i5), .val (.int (Int32.ofNat cap)), .val (.int (1 : Int32)), .val (.int (i5 &&& (1073741823 : Int32))), .unset, .unset, .unset] [])) rfl (hb hby at_22) (by decide) (by decide)
    obtain ⟨b7, gq7⟩ : ∃ z, z = h0.size := ⟨_, rfl⟩
    rw [← gq7] at A7 D7 st7
    have g_b7 : n0 ≤ b7 := Nat.le_trans Zs (Nat.le_of_eq gq7.symm)
    have Zs := Nat.le_trans Zs E7.1
    have E_b7 := A7
    have F_entries_b7 : Fld Z h7 b7 "com/example/surrogate/surrogate/index/Entries" "entries" "[I" .null := D7 (Or.inl (hw _ (List.mem_of_getElem? (i := 12) rfl))) (ty := (.array .int)) (by decide)
    have F_size_b7 : Fld Z h7 b7 "com/example/surrogate/surrogate/index/Entries" "size" "I" (.int (0 : Int32)) := D7 (Or.inl (hw _ (List.mem_of_getElem? (i := 19) rfl))) (ty := .int) (by decide)
    refine own_by (B := T7.setTop (mkF m 25 #[.val (.int i0), .val (.int i1), .val (.int i2), .val (.int i3), .val (.int i4), .val (.int i5), .val (.int (Int32.ofNat cap)), .val (.int (1 : Int32)), .val (.int (i5 &&& (1073741823 : Int32))), .unset, .unset, .unset] [(.ref b7)])) st7 ?_
    refine own_by (B := T7.setTop (mkF m 26 #[.val (.int i0), .val (.int i1), .val (.int i2), .val (.int i3), .val (.int i4), .val (.int i5), .val (.int (Int32.ofNat cap)), .val (.int (1 : Int32)), .val (.int (i5 &&& (1073741823 : Int32))), .unset, .unset, .unset] [(.ref b7), (.ref b7)])) (fun t k => XS.dup X7.here hx rfl (hb hby at_25) rfl rfl k) ?_
    refine own_by (B := T7.setTop (mkF m 28 #[.val (.int i0), .val (.int i1), .val (.int i2), .val (.int i3), .val (.int i4), .val (.int i5), .val (.int (Int32.ofNat cap)), .val (.int (1 : Int32)), .val (.int (i5 &&& (1073741823 : Int32))), .unset, .unset, .unset] [(.int (Int32.ofNat cap)), (.ref b7), (.ref b7)])) (fun t k => XS.iload X7.here hx rfl (hb hby at_26) rfl k) ?_
    obtain ⟨_, _, ⟨T8, L8, k8, n8⟩, -, X8, ⟨Lc8, hQ8, l8, y8, z8⟩, st8⟩ := X7.specialBack hx (y := (⟨"com/example/surrogate/surrogate/index/Entries", "<init>", "(I)V"⟩ : MethodName)) rfl hown (mvT hZ (hw _ (List.mem_of_getElem? (i := 4) rfl))) (mvT hZ (hw _ (List.mem_of_getElem? (i := 5) rfl))) (mvT hZ (hw _ (List.mem_of_getElem? (i := 6) rfl))) (by decide) (backOf (W := 1) (rmI l Z a0 hw [] b7 cap h7 n0 Zs E_b7 F_size_b7 F_entries_b7 g_b7 hcap) hZ (hw _ (List.mem_of_getElem? (i := 6) rfl)) (hw _ (List.mem_of_getElem? (i := 3) rfl)) (by decide) (by decide)) (g := (mkF m 28 #[.val (.int i0), .val (.int i1), .val (.int i2), .val (.int i3), .val (.int i4), .val (.int i5), .val (.int (Int32.ofNat cap)), .val (.int (1 : Int32)), .val (.int (i5 &&& (1073741823 : Int32))), .unset, .unset, .unset] [(.int (Int32.ofNat cap)), (.ref b7), (.ref b7)])) rfl (by rw [hml]; rfl) (Steps.refl _) (a := b7) (argsL := [(.int (Int32.ofNat cap))]) (rest := [(.ref b7)]) (lenOf own_pd2 rfl) rfl (by show 2 * 0 + _ ≤ _; exact Nat.le_of_eq rfl) (hb hby at_28) (fun _ _ => ⟨rfl, e7, (by decide : 1 + 1 ≤ _), (by decide : 2 + 6 ≤ _)⟩)
    dsimp only [Pt.U, Pt.locs, Pt.cells, Pt.slots] at X8 l8 y8 z8 st8 hQ8
    subst l8 y8 z8
    obtain ⟨rfl, Nq8, Kc8, Fs8, b8, f8, g_b8, ne_b7_b8, Fe8, Vc8, hz8⟩ := hQ8
    have Nf := Fr.app Nf Nq8
    have E_b7 := E_b7.keep Kc8
    have Zs := Nat.le_trans Zs Kc8.1
    have F_size_b7 := Fs8
    have F_entries_b7 := Fe8
    have V_b8 := Vc8
    have hint8 : ∀ i, i < 2 * cap → ∃ x, f8 i = .int x := fun i _ => ⟨_, hz8 i⟩
    refine own_by (B := T8.setTop (mkF m 31 #[.val (.int i0), .val (.int i1), .val (.int i2), .val (.int i3), .val (.int i4), .val (.int i5), .val (.int (Int32.ofNat cap)), .val (.int (1 : Int32)), .val (.int (i5 &&& (1073741823 : Int32))), .unset, .unset, .unset] [(.ref b7)])) (fun t k => st8.trans k) ?_
    refine own_by (B := T8.setTop (mkF m 33 #[.val (.int i0), .val (.int i1), .val (.int i2), .val (.int i3), .val (.int i4), .val (.int i5), .val (.int (Int32.ofNat cap)), .val (.int (1 : Int32)), .val (.int (i5 &&& (1073741823 : Int32))), .val (.ref b7), .unset, .unset] [])) (fun t k => XS.astore X8.here hx rfl (hb hby at_31) rfl rfl (l' := #[.val (.int i0), .val (.int i1), .val (.int i2), .val (.int i3), .val (.int i4), .val (.int i5), .val (.int (Int32.ofNat cap)), .val (.int (1 : Int32)), .val (.int (i5 &&& (1073741823 : Int32))), .val (.ref b7), .unset, .unset]) rfl k) ?_
    refine own_by (B := T8.setTop (mkF m 35 #[.val (.int i0), .val (.int i1), .val (.int i2), .val (.int i3), .val (.int i4), .val (.int i5), .val (.int (Int32.ofNat cap)), .val (.int (1 : Int32)), .val (.int (i5 &&& (1073741823 : Int32))), .val (.ref b7), .unset, .unset] [(.int (1 : Int32))])) (fun t k => XS.iload X8.here hx rfl (hb hby at_33) rfl k) ?_
    refine own_by (B := T8.setTop (mkF m 38 #[.val (.int i0), .val (.int i1), .val (.int i2), .val (.int i3), .val (.int i4), .val (.int i5), .val (.int (Int32.ofNat cap)), .val (.int (1 : Int32)), .val (.int (i5 &&& (1073741823 : Int32))), .val (.ref b7), .unset, .unset] [])) (fun t k => XS.ifNo X8.here hx rfl (hb hby at_35) rfl ((if0 _ _).trans (tlt (by decide)).2.2.2) k) ?_
    refine own_by (B := T8.setTop (mkF m 40 #[.val (.int i0), .val (.int i1), .val (.int i2), .val (.int i3), .val (.int i4), .val (.int i5), .val (.int (Int32.ofNat cap)), .val (.int (1 : Int32)), .val (.int (i5 &&& (1073741823 : Int32))), .val (.ref b7), .unset, .unset] [(.ref b7)])) (fun t k => XS.aload X8.here hx rfl (hb hby at_38) rfl rfl k) ?_
    refine own_by (B := T8.setTop (mkF m 42 #[.val (.int i0), .val (.int i1), .val (.int i2), .val (.int i3), .val (.int i4), .val (.int i5), .val (.int (Int32.ofNat cap)), .val (.int (1 : Int32)), .val (.int (i5 &&& (1073741823 : Int32))), .val (.ref b7), .unset, .unset] [(.int (i5 &&& (1073741823 : Int32))), (.ref b7)])) (fun t k => XS.iload X8.here hx rfl (hb hby at_40) rfl k) ?_
    refine own_by (B := T8.setTop (mkF m 43 #[.val (.int i0), .val (.int i1), .val (.int i2), .val (.int i3), .val (.int i4), .val (.int i5), .val (.int (Int32.ofNat cap)), .val (.int (1 : Int32)), .val (.int (i5 &&& (1073741823 : Int32))), .val (.ref b7), .unset, .unset] [(.int i1), (.int (i5 &&& (1073741823 : Int32))), (.ref b7)])) (fun t k => XS.iloadN X8.here hx rfl (hb hby at_42) rfl k) ?_
    obtain ⟨cq9, kq9, q9a, q9b, q9c⟩ := isOf hZ rfl E_b7
    obtain ⟨_, _, ⟨T9, L9, k9, n9⟩, -, X9, ⟨Lc9, hQ9, l9, y9, z9⟩, st9⟩ := X8.virtualBack hx (y := (⟨"com/example/surrogate/surrogate/index/Entries", "add", "(II)V"⟩ : MethodName)) (z := (⟨"com/example/surrogate/surrogate/index/Entries", "add", "(II)V"⟩ : MethodName)) hown (mvT hZ (hw _ (List.mem_of_getElem? (i := 20) rfl))) (mvT hZ (hw _ (List.mem_of_getElem? (i := 21) rfl))) (notFace_of_selects (args := #[]) (mvT hZ (hw _ (List.mem_of_getElem? (i := 23) rfl)))) (mvT hZ (hw _ (List.mem_of_getElem? (i := 23) rfl))) (mvT hZ (hw _ (List.mem_of_getElem? (i := 22) rfl))) (by decide) (backOf (W := 0) (rmA l Z a0 hw [] b7 (i5 &&& (1073741823 : Int32)) i1 b8 0 (2 * cap) f8 T8.heap n0 Zs E_b7 F_size_b7 F_entries_b7 V_b8 hint8 g_b7 g_b8 ne_b7_b8 (by omega) (by omega) (by omega) (by omega)) hZ (hw _ (List.mem_of_getElem? (i := 24) rfl)) (hw _ (List.mem_of_getElem? (i := 3) rfl)) (by decide) (by decide)) q9a q9c (g := (mkF m 43 #[.val (.int i0), .val (.int i1), .val (.int i2), .val (.int i3), .val (.int i4), .val (.int i5), .val (.int (Int32.ofNat cap)), .val (.int (1 : Int32)), .val (.int (i5 &&& (1073741823 : Int32))), .val (.ref b7), .unset, .unset] [(.int i1), (.int (i5 &&& (1073741823 : Int32))), (.ref b7)])) rfl (by rw [hml]; rfl) (Steps.refl _) (argsL := [(.int (i5 &&& (1073741823 : Int32))), (.int i1)]) (rest := []) (lenOf own_pd4 rfl) rfl (by show 2 * 0 + _ ≤ _; exact Nat.le_of_eq rfl) (hb hby at_43) (fun _ _ => ⟨rfl, rfl, (by decide : 2 + 1 ≤ _), (by decide : 8 + 12 ≤ _)⟩)
    dsimp only [Pt.U, Pt.locs, Pt.cells, Pt.slots] at X9 l9 y9 z9 st9 hQ9
    subst l9 y9 z9
    obtain ⟨rfl, Nq9, Kc9, Fs9, b9, mz9, f9, g_b9, ne_b7_b9, Fe9, Vc9, hma9, hmb9, hmc9, hne9, hnf9, hol9, hin9⟩ := hQ9
    have Nf := Fr.app Nf Nq9
    have E_b7 := E_b7.keep Kc9
    have Zs := Nat.le_trans Zs Kc9.1
    have F_size_b7 := Fs9
    have F_entries_b7 := Fe9
    have V_b9 := Vc9
    have hA9_0 : f9 0 = .int (i5 &&& (1073741823 : Int32)) := hne9
    have hB9_0 : f9 1 = .int i1 := hnf9
    refine own_by (B := T9.setTop (mkF m 46 #[.val (.int i0), .val (.int i1), .val (.int i2), .val (.int i3), .val (.int i4), .val (.int i5), .val (.int (Int32.ofNat cap)), .val (.int (1 : Int32)), .val (.int (i5 &&& (1073741823 : Int32))), .val (.ref b7), .unset, .unset] [])) (fun t k => st9.trans k) ?_
    refine own_by (B := T9.setTop (mkF m 48 #[.val (.int i0), .val (.int i1), .val (.int i2), .val (.int i3), .val (.int i4), .val (.int i5), .val (.int (Int32.ofNat cap)), .val (.int (1 : Int32)), .val (.int (i5 &&& (1073741823 : Int32))), .val (.ref b7), .unset, .unset] [(.int (1 : Int32))])) (fun t k => XS.iload X9.here hx rfl (hb hby at_46) rfl k) ?_
    refine own_by (B := T9.setTop (mkF m 49 #[.val (.int i0), .val (.int i1), .val (.int i2), .val (.int i3), .val (.int i4), .val (.int i5), .val (.int (Int32.ofNat cap)), .val (.int (1 : Int32)), .val (.int (i5 &&& (1073741823 : Int32))), .val (.ref b7), .unset, .unset] [(.int (1 : Int32)), (.int (1 : Int32))])) (fun t k => XS.iconst X9.here hx rfl (hb hby at_48) k) ?_
    refine own_by (B := T9.setTop (mkF m 62 #[.val (.int i0), .val (.int i1), .val (.int i2), .val (.int i3), .val (.int i4), .val (.int i5), .val (.int (Int32.ofNat cap)), .val (.int (1 : Int32)), .val (.int (i5 &&& (1073741823 : Int32))), .val (.ref b7), .unset, .unset] [])) (fun t k => XS.icmpYes X9.here hx rfl (pc0 := 49) (pc' := 62) rfl (hb hby at_49) rfl (flt (by decide)).2.2.2 (by decide) (by decide) k) ?_
    refine own_by (B := T9.setTop (mkF m 64 #[.val (.int i0), .val (.int i1), .val (.int i2), .val (.int i3), .val (.int i4), .val (.int i5), .val (.int (Int32.ofNat cap)), .val (.int (1 : Int32)), .val (.int (i5 &&& (1073741823 : Int32))), .val (.ref b7), .unset, .unset] [(.int (1 : Int32))])) (fun t k => XS.iload X9.here hx rfl (hb hby at_62) rfl k) ?_
    refine own_by (B := T9.setTop (mkF m 65 #[.val (.int i0), .val (.int i1), .val (.int i2), .val (.int i3), .val (.int i4), .val (.int i5), .val (.int (Int32.ofNat cap)), .val (.int (1 : Int32)), .val (.int (i5 &&& (1073741823 : Int32))), .val (.ref b7), .unset, .unset] [(.int (2 : Int32)), (.int (1 : Int32))])) (fun t k => XS.iconst X9.here hx rfl (hb hby at_64) k) ?_
    refine own_by (B := T9.setTop (mkF m 78 #[.val (.int i0), .val (.int i1), .val (.int i2), .val (.int i3), .val (.int i4), .val (.int i5), .val (.int (Int32.ofNat cap)), .val (.int (1 : Int32)), .val (.int (i5 &&& (1073741823 : Int32))), .val (.ref b7), .unset, .unset] [])) (fun t k => XS.icmpYes X9.here hx rfl (pc0 := 65) (pc' := 78) rfl (hb hby at_65) rfl (flt (by decide)).2.2.2 (by decide) (by decide) k) ?_
    refine own_by (B := T9.setTop (mkF m 80 #[.val (.int i0), .val (.int i1), .val (.int i2), .val (.int i3), .val (.int i4), .val (.int i5), .val (.int (Int32.ofNat cap)), .val (.int (1 : Int32)), .val (.int (i5 &&& (1073741823 : Int32))), .val (.ref b7), .unset, .unset] [(.int (1 : Int32))])) (fun t k => XS.iload X9.here hx rfl (hb hby at_78) rfl k) ?_
    refine own_by (B := T9.setTop (mkF m 81 #[.val (.int i0), .val (.int i1), .val (.int i2), .val (.int i3), .val (.int i4), .val (.int i5), .val (.int (Int32.ofNat cap)), .val (.int (1 : Int32)), .val (.int (i5 &&& (1073741823 : Int32))), .val (.ref b7), .unset, .unset] [(.int (3 : Int32)), (.int (1 : Int32))])) (fun t k => XS.iconst X9.here hx rfl (hb hby at_80) k) ?_
    refine own_by (B := T9.setTop (mkF m 95 #[.val (.int i0), .val (.int i1), .val (.int i2), .val (.int i3), .val (.int i4), .val (.int i5), .val (.int (Int32.ofNat cap)), .val (.int (1 : Int32)), .val (.int (i5 &&& (1073741823 : Int32))), .val (.ref b7), .unset, .unset] [])) (fun t k => XS.icmpYes X9.here hx rfl (pc0 := 81) (pc' := 95) rfl (hb hby at_81) rfl (flt (by decide)).2.2.2 (by decide) (by decide) k) ?_
    refine own_by (B := T9.setTop (mkF m 97 #[.val (.int i0), .val (.int i1), .val (.int i2), .val (.int i3), .val (.int i4), .val (.int i5), .val (.int (Int32.ofNat cap)), .val (.int (1 : Int32)), .val (.int (i5 &&& (1073741823 : Int32))), .val (.ref b7), .unset, .unset] [(.ref b7)])) (fun t k => XS.aload X9.here hx rfl (hb hby at_95) rfl rfl k) ?_
    obtain ⟨cq10, kq10, q10a, q10b, q10c⟩ := isOf hZ rfl E_b7
    obtain ⟨_, _, ⟨T10, L10, k10, n10⟩, -, X10, ⟨Lc10, hQ10, l10, y10, z10⟩, st10⟩ := X9.virtualBack hx (y := (⟨"com/example/surrogate/surrogate/index/Entries", "frequencies", "()[I"⟩ : MethodName)) (z := (⟨"com/example/surrogate/surrogate/index/Entries", "frequencies", "()[I"⟩ : MethodName)) hown (mvT hZ (hw _ (List.mem_of_getElem? (i := 13) rfl))) (mvT hZ (hw _ (List.mem_of_getElem? (i := 14) rfl))) (notFace_of_selects (args := #[]) (mvT hZ (hw _ (List.mem_of_getElem? (i := 16) rfl)))) (mvT hZ (hw _ (List.mem_of_getElem? (i := 16) rfl))) (mvT hZ (hw _ (List.mem_of_getElem? (i := 15) rfl))) (by decide) (backOf (W := 0) (rmF1 l Z a0 hw [] b7 b9 mz9 f9 i1 T9.heap n0 Zs F_size_b7 F_entries_b7 V_b9 ne_b7_b9 (by omega) (by omega) hB9_0) hZ (hw _ (List.mem_of_getElem? (i := 17) rfl)) (hw _ (List.mem_of_getElem? (i := 3) rfl)) (by decide) (by decide)) q10a q10c (g := (mkF m 97 #[.val (.int i0), .val (.int i1), .val (.int i2), .val (.int i3), .val (.int i4), .val (.int i5), .val (.int (Int32.ofNat cap)), .val (.int (1 : Int32)), .val (.int (i5 &&& (1073741823 : Int32))), .val (.ref b7), .unset, .unset] [(.ref b7)])) rfl (by rw [hml]; rfl) (Steps.refl _) (argsL := []) (rest := []) (lenOf own_pd3 rfl) rfl (by show 2 * 0 + _ ≤ _; exact Nat.le_of_eq rfl) (hb hby at_97) (fun _ _ => ⟨rfl, rfl, (by decide : 3 + 1 ≤ _), (by decide : 20 + 1 ≤ _)⟩)
    dsimp only [Pt.U, Pt.locs, Pt.cells, Pt.slots] at X10 l10 y10 z10 st10 hQ10
    subst l10 y10 z10
    obtain ⟨rfl, Nq10, Kc10, g10, Vc10, hg10_0⟩ := hQ10
    have Nf := Fr.app Nf Nq10
    obtain ⟨b10, gq10⟩ : ∃ z, z = T9.heap.size := ⟨_, rfl⟩
    rw [← gq10] at Vc10 st10
    have ne_b7_b10 : b7 ≠ b10 := Nat.ne_of_lt (Nat.lt_of_lt_of_le E_b7.lt (Nat.le_of_eq gq10.symm))
    have ne_b9_b10 : b9 ≠ b10 := Nat.ne_of_lt (Nat.lt_of_lt_of_le V_b9.lt (Nat.le_of_eq gq10.symm))
    have g_b10 : n0 ≤ b10 := Nat.le_trans Zs (Nat.le_of_eq gq10.symm)
    have E_b7 := E_b7.keep Kc10
    have F_size_b7 := F_size_b7.keep Kc10 nin0
    have F_entries_b7 := F_entries_b7.keep Kc10 nin0
    have V_b9 := V_b9.keep Kc10 nin0
    have Zs := Nat.le_trans Zs Kc10.1
    have V_b10 := Vc10
    refine own_by (B := T10.setTop (mkF m 100 #[.val (.int i0), .val (.int i1), .val (.int i2), .val (.int i3), .val (.int i4), .val (.int i5), .val (.int (Int32.ofNat cap)), .val (.int (1 : Int32)), .val (.int (i5 &&& (1073741823 : Int32))), .val (.ref b7), .unset, .unset] [(.ref b10)])) (fun t k => st10.trans k) ?_
    refine own_by (B := T10.setTop (mkF m 102 #[.val (.int i0), .val (.int i1), .val (.int i2), .val (.int i3), .val (.int i4), .val (.int i5), .val (.int (Int32.ofNat cap)), .val (.int (1 : Int32)), .val (.int (i5 &&& (1073741823 : Int32))), .val (.ref b7), .val (.ref b10), .unset] [])) (fun t k => XS.astore X10.here hx rfl (hb hby at_100) rfl rfl (l' := #[.val (.int i0), .val (.int i1), .val (.int i2), .val (.int i3), .val (.int i4), .val (.int i5), .val (.int (Int32.ofNat cap)), .val (.int (1 : Int32)), .val (.int (i5 &&& (1073741823 : Int32))), .val (.ref b7), .val (.ref b10), .unset]) rfl k) ?_
    refine own_by (B := T10.setTop (mkF m 104 #[.val (.int i0), .val (.int i1), .val (.int i2), .val (.int i3), .val (.int i4), .val (.int i5), .val (.int (Int32.ofNat cap)), .val (.int (1 : Int32)), .val (.int (i5 &&& (1073741823 : Int32))), .val (.ref b7), .val (.ref b10), .unset] [(.ref b10)])) (fun t k => XS.aload X10.here hx rfl (hb hby at_102) rfl rfl k) ?_
    obtain ⟨cl11, Ar11, Sz11, Ng11, -⟩ := id V_b10
    refine own_by (B := T10.setTop (mkF m 105 #[.val (.int i0), .val (.int i1), .val (.int i2), .val (.int i3), .val (.int i4), .val (.int i5), .val (.int (Int32.ofNat cap)), .val (.int (1 : Int32)), .val (.int (i5 &&& (1073741823 : Int32))), .val (.ref b7), .val (.ref b10), .unset] [(.int (1 : Int32))])) (fun t k => X10.arraylength hx Ar11.1 (State.isArrayOf_alike hZ.alike Ar11.2.1) (g := (mkF m 104 #[.val (.int i0), .val (.int i1), .val (.int i2), .val (.int i3), .val (.int i4), .val (.int i5), .val (.int (Int32.ofNat cap)), .val (.int (1 : Int32)), .val (.int (i5 &&& (1073741823 : Int32))), .val (.ref b7), .val (.ref b10), .unset] [(.ref b10)])) rfl rfl (hb hby at_104) _ (by rw [len_of Sz11 Ng11]; exact k)) ?_
    refine own_by (B := T10.setTop (mkF m 107 #[.val (.int i0), .val (.int i1), .val (.int i2), .val (.int i3), .val (.int i4), .val (.int i5), .val (.int (Int32.ofNat cap)), .val (.int (1 : Int32)), .val (.int (i5 &&& (1073741823 : Int32))), .val (.ref b7), .val (.ref b10), .unset] [(.int (1 : Int32)), (.int (1 : Int32))])) (fun t k => XS.iload X10.here hx rfl (hb hby at_105) rfl k) ?_
    refine own_by (B := T10.setTop (mkF m 112 #[.val (.int i0), .val (.int i1), .val (.int i2), .val (.int i3), .val (.int i4), .val (.int i5), .val (.int (Int32.ofNat cap)), .val (.int (1 : Int32)), .val (.int (i5 &&& (1073741823 : Int32))), .val (.ref b7), .val (.ref b10), .unset] [])) (fun t k => XS.icmpYes X10.here hx rfl (pc0 := 107) (pc' := 112) rfl (hb hby at_107) rfl (teq (by decide)).1 (by decide) (by decide) k) ?_
    refine own_by (B := T10.setTop (mkF m 114 #[.val (.int i0), .val (.int i1), .val (.int i2), .val (.int i3), .val (.int i4), .val (.int i5), .val (.int (Int32.ofNat cap)), .val (.int (1 : Int32)), .val (.int (i5 &&& (1073741823 : Int32))), .val (.ref b7), .val (.ref b10), .unset] [(.int (1 : Int32))])) (fun t k => XS.iload X10.here hx rfl (hb hby at_112) rfl k) ?_
    refine own_by (B := T10.setTop (mkF m 117 #[.val (.int i0), .val (.int i1), .val (.int i2), .val (.int i3), .val (.int i4), .val (.int i5), .val (.int (Int32.ofNat cap)), .val (.int (1 : Int32)), .val (.int (i5 &&& (1073741823 : Int32))), .val (.ref b7), .val (.ref b10), .unset] [])) (fun t k => XS.ifNo X10.here hx rfl (hb hby at_114) rfl ((if0 _ _).trans (tlt (by decide)).2.2.2) k) ?_
    refine own_by (B := T10.setTop (mkF m 119 #[.val (.int i0), .val (.int i1), .val (.int i2), .val (.int i3), .val (.int i4), .val (.int i5), .val (.int (Int32.ofNat cap)), .val (.int (1 : Int32)), .val (.int (i5 &&& (1073741823 : Int32))), .val (.ref b7), .val (.ref b10), .unset] [(.ref b10)])) (fun t k => XS.aload X10.here hx rfl (hb hby at_117) rfl rfl k) ?_
    refine own_by (B := T10.setTop (mkF m 120 #[.val (.int i0), .val (.int i1), .val (.int i2), .val (.int i3), .val (.int i4), .val (.int i5), .val (.int (Int32.ofNat cap)), .val (.int (1 : Int32)), .val (.int (i5 &&& (1073741823 : Int32))), .val (.ref b7), .val (.ref b10), .unset] [(.int (0 : Int32)), (.ref b10)])) (fun t k => XS.iconst X10.here hx rfl (hb hby at_119) k) ?_
    obtain ⟨cl12, Ar12, hin12, hat12⟩ := V_b10.at (j := (0 : Int32)) ⟨by decide, by decide⟩
    have hat12 := hat12.trans (congrArg some (show _ = (.int i1) from hg10_0))
    refine own_by (B := T10.setTop (mkF m 121 #[.val (.int i0), .val (.int i1), .val (.int i2), .val (.int i3), .val (.int i4), .val (.int i5), .val (.int (Int32.ofNat cap)), .val (.int (1 : Int32)), .val (.int (i5 &&& (1073741823 : Int32))), .val (.ref b7), .val (.ref b10), .unset] [(.int i1)])) (fun t k => X10.iaload hx (j := (0 : Int32)) (v := (.int i1)) Ar12.1 (State.isArrayOf_alike hZ.alike Ar12.2.1) Ar12.2.2 hin12 hat12 (g := (mkF m 120 #[.val (.int i0), .val (.int i1), .val (.int i2), .val (.int i3), .val (.int i4), .val (.int i5), .val (.int (Int32.ofNat cap)), .val (.int (1 : Int32)), .val (.int (i5 &&& (1073741823 : Int32))), .val (.ref b7), .val (.ref b10), .unset] [(.int (0 : Int32)), (.ref b10)])) rfl rfl (hb hby at_120) _ k) ?_
    refine own_by (B := T10.setTop (mkF m 122 #[.val (.int i0), .val (.int i1), .val (.int i2), .val (.int i3), .val (.int i4), .val (.int i5), .val (.int (Int32.ofNat cap)), .val (.int (1 : Int32)), .val (.int (i5 &&& (1073741823 : Int32))), .val (.ref b7), .val (.ref b10), .unset] [(.int i1), (.int i1)])) (fun t k => XS.iloadN X10.here hx rfl (hb hby at_121) rfl k) ?_
    refine own_by (B := T10.setTop (mkF m 127 #[.val (.int i0), .val (.int i1), .val (.int i2), .val (.int i3), .val (.int i4), .val (.int i5), .val (.int (Int32.ofNat cap)), .val (.int (1 : Int32)), .val (.int (i5 &&& (1073741823 : Int32))), .val (.ref b7), .val (.ref b10), .unset] [])) (fun t k => XS.icmpYes X10.here hx rfl (pc0 := 122) (pc' := 127) rfl (hb hby at_122) rfl (teq rfl).1 (by decide) (by decide) k) ?_
    refine own_by (B := T10.setTop (mkF m 129 #[.val (.int i0), .val (.int i1), .val (.int i2), .val (.int i3), .val (.int i4), .val (.int i5), .val (.int (Int32.ofNat cap)), .val (.int (1 : Int32)), .val (.int (i5 &&& (1073741823 : Int32))), .val (.ref b7), .val (.ref b10), .unset] [(.int (1 : Int32))])) (fun t k => XS.iload X10.here hx rfl (hb hby at_127) rfl k) ?_
    refine own_by (B := T10.setTop (mkF m 130 #[.val (.int i0), .val (.int i1), .val (.int i2), .val (.int i3), .val (.int i4), .val (.int i5), .val (.int (Int32.ofNat cap)), .val (.int (1 : Int32)), .val (.int (i5 &&& (1073741823 : Int32))), .val (.ref b7), .val (.ref b10), .unset] [(.int (1 : Int32)), (.int (1 : Int32))])) (fun t k => XS.iconst X10.here hx rfl (hb hby at_129) k) ?_
    refine own_by (B := T10.setTop (mkF m 143 #[.val (.int i0), .val (.int i1), .val (.int i2), .val (.int i3), .val (.int i4), .val (.int i5), .val (.int (Int32.ofNat cap)), .val (.int (1 : Int32)), .val (.int (i5 &&& (1073741823 : Int32))), .val (.ref b7), .val (.ref b10), .unset] [])) (fun t k => XS.icmpYes X10.here hx rfl (pc0 := 130) (pc' := 143) rfl (hb hby at_130) rfl (flt (by decide)).2.2.2 (by decide) (by decide) k) ?_
    refine own_by (B := T10.setTop (mkF m 145 #[.val (.int i0), .val (.int i1), .val (.int i2), .val (.int i3), .val (.int i4), .val (.int i5), .val (.int (Int32.ofNat cap)), .val (.int (1 : Int32)), .val (.int (i5 &&& (1073741823 : Int32))), .val (.ref b7), .val (.ref b10), .unset] [(.int (1 : Int32))])) (fun t k => XS.iload X10.here hx rfl (hb hby at_143) rfl k) ?_
    refine own_by (B := T10.setTop (mkF m 146 #[.val (.int i0), .val (.int i1), .val (.int i2), .val (.int i3), .val (.int i4), .val (.int i5), .val (.int (Int32.ofNat cap)), .val (.int (1 : Int32)), .val (.int (i5 &&& (1073741823 : Int32))), .val (.ref b7), .val (.ref b10), .unset] [(.int (2 : Int32)), (.int (1 : Int32))])) (fun t k => XS.iconst X10.here hx rfl (hb hby at_145) k) ?_
    refine own_by (B := T10.setTop (mkF m 159 #[.val (.int i0), .val (.int i1), .val (.int i2), .val (.int i3), .val (.int i4), .val (.int i5), .val (.int (Int32.ofNat cap)), .val (.int (1 : Int32)), .val (.int (i5 &&& (1073741823 : Int32))), .val (.ref b7), .val (.ref b10), .unset] [])) (fun t k => XS.icmpYes X10.here hx rfl (pc0 := 146) (pc' := 159) rfl (hb hby at_146) rfl (flt (by decide)).2.2.2 (by decide) (by decide) k) ?_
    refine own_by (B := T10.setTop (mkF m 161 #[.val (.int i0), .val (.int i1), .val (.int i2), .val (.int i3), .val (.int i4), .val (.int i5), .val (.int (Int32.ofNat cap)), .val (.int (1 : Int32)), .val (.int (i5 &&& (1073741823 : Int32))), .val (.ref b7), .val (.ref b10), .unset] [(.int (1 : Int32))])) (fun t k => XS.iload X10.here hx rfl (hb hby at_159) rfl k) ?_
    refine own_by (B := T10.setTop (mkF m 162 #[.val (.int i0), .val (.int i1), .val (.int i2), .val (.int i3), .val (.int i4), .val (.int i5), .val (.int (Int32.ofNat cap)), .val (.int (1 : Int32)), .val (.int (i5 &&& (1073741823 : Int32))), .val (.ref b7), .val (.ref b10), .unset] [(.int (3 : Int32)), (.int (1 : Int32))])) (fun t k => XS.iconst X10.here hx rfl (hb hby at_161) k) ?_
    refine own_by (B := T10.setTop (mkF m 176 #[.val (.int i0), .val (.int i1), .val (.int i2), .val (.int i3), .val (.int i4), .val (.int i5), .val (.int (Int32.ofNat cap)), .val (.int (1 : Int32)), .val (.int (i5 &&& (1073741823 : Int32))), .val (.ref b7), .val (.ref b10), .unset] [])) (fun t k => XS.icmpYes X10.here hx rfl (pc0 := 162) (pc' := 176) rfl (hb hby at_162) rfl (flt (by decide)).2.2.2 (by decide) (by decide) k) ?_
    refine own_by (B := T10.setTop (mkF m 178 #[.val (.int i0), .val (.int i1), .val (.int i2), .val (.int i3), .val (.int i4), .val (.int i5), .val (.int (Int32.ofNat cap)), .val (.int (1 : Int32)), .val (.int (i5 &&& (1073741823 : Int32))), .val (.ref b7), .val (.ref b10), .unset] [(.ref b7)])) (fun t k => XS.aload X10.here hx rfl (hb hby at_176) rfl rfl k) ?_
    obtain ⟨cq13, kq13, q13a, q13b, q13c⟩ := isOf hZ rfl E_b7
    obtain ⟨_, _, ⟨T13, L13, k13, n13⟩, -, X13, ⟨Lc13, hQ13, l13, y13, z13⟩, st13⟩ := X10.virtualBack hx (y := (⟨"com/example/surrogate/surrogate/index/Entries", "frequencies", "()[I"⟩ : MethodName)) (z := (⟨"com/example/surrogate/surrogate/index/Entries", "frequencies", "()[I"⟩ : MethodName)) hown (mvT hZ (hw _ (List.mem_of_getElem? (i := 13) rfl))) (mvT hZ (hw _ (List.mem_of_getElem? (i := 14) rfl))) (notFace_of_selects (args := #[]) (mvT hZ (hw _ (List.mem_of_getElem? (i := 16) rfl)))) (mvT hZ (hw _ (List.mem_of_getElem? (i := 16) rfl))) (mvT hZ (hw _ (List.mem_of_getElem? (i := 15) rfl))) (by decide) (backOf (W := 0) (rmF1 l Z a0 hw [] b7 b9 mz9 f9 i1 T10.heap n0 Zs F_size_b7 F_entries_b7 V_b9 ne_b7_b9 (by omega) (by omega) hB9_0) hZ (hw _ (List.mem_of_getElem? (i := 17) rfl)) (hw _ (List.mem_of_getElem? (i := 3) rfl)) (by decide) (by decide)) q13a q13c (g := (mkF m 178 #[.val (.int i0), .val (.int i1), .val (.int i2), .val (.int i3), .val (.int i4), .val (.int i5), .val (.int (Int32.ofNat cap)), .val (.int (1 : Int32)), .val (.int (i5 &&& (1073741823 : Int32))), .val (.ref b7), .val (.ref b10), .unset] [(.ref b7)])) rfl (by rw [hml]; rfl) (Steps.refl _) (argsL := []) (rest := []) (lenOf own_pd3 rfl) rfl (by show 2 * 0 + _ ≤ _; exact Nat.le_of_eq rfl) (hb hby at_178) (fun _ _ => ⟨rfl, rfl, (by decide : 4 + 1 ≤ _), (by decide : 21 + 1 ≤ _)⟩)
    dsimp only [Pt.U, Pt.locs, Pt.cells, Pt.slots] at X13 l13 y13 z13 st13 hQ13
    subst l13 y13 z13
    obtain ⟨rfl, Nq13, Kc13, g13, Vc13, hg13_0⟩ := hQ13
    have Nf := Fr.app Nf Nq13
    obtain ⟨b13, gq13⟩ : ∃ z, z = T10.heap.size := ⟨_, rfl⟩
    rw [← gq13] at Vc13 st13
    have ne_b7_b13 : b7 ≠ b13 := Nat.ne_of_lt (Nat.lt_of_lt_of_le E_b7.lt (Nat.le_of_eq gq13.symm))
    have ne_b9_b13 : b9 ≠ b13 := Nat.ne_of_lt (Nat.lt_of_lt_of_le V_b9.lt (Nat.le_of_eq gq13.symm))
    have ne_b10_b13 : b10 ≠ b13 := Nat.ne_of_lt (Nat.lt_of_lt_of_le V_b10.lt (Nat.le_of_eq gq13.symm))
    have g_b13 : n0 ≤ b13 := Nat.le_trans Zs (Nat.le_of_eq gq13.symm)
    have E_b7 := E_b7.keep Kc13
    have F_size_b7 := F_size_b7.keep Kc13 nin0
    have F_entries_b7 := F_entries_b7.keep Kc13 nin0
    have V_b9 := V_b9.keep Kc13 nin0
    have V_b10 := V_b10.keep Kc13 nin0
    have Zs := Nat.le_trans Zs Kc13.1
    have V_b13 := Vc13
    refine own_by (B := T13.setTop (mkF m 181 #[.val (.int i0), .val (.int i1), .val (.int i2), .val (.int i3), .val (.int i4), .val (.int i5), .val (.int (Int32.ofNat cap)), .val (.int (1 : Int32)), .val (.int (i5 &&& (1073741823 : Int32))), .val (.ref b7), .val (.ref b10), .unset] [(.ref b13)])) (fun t k => st13.trans k) ?_
    refine own_by (B := T13.setTop (mkF m 183 #[.val (.int i0), .val (.int i1), .val (.int i2), .val (.int i3), .val (.int i4), .val (.int i5), .val (.int (Int32.ofNat cap)), .val (.int (1 : Int32)), .val (.int (i5 &&& (1073741823 : Int32))), .val (.ref b7), .val (.ref b10), .val (.ref b13)] [])) (fun t k => XS.astore X13.here hx rfl (hb hby at_181) rfl rfl (l' := #[.val (.int i0), .val (.int i1), .val (.int i2), .val (.int i3), .val (.int i4), .val (.int i5), .val (.int (Int32.ofNat cap)), .val (.int (1 : Int32)), .val (.int (i5 &&& (1073741823 : Int32))), .val (.ref b7), .val (.ref b10), .val (.ref b13)]) rfl k) ?_
    refine own_by (B := T13.setTop (mkF m 185 #[.val (.int i0), .val (.int i1), .val (.int i2), .val (.int i3), .val (.int i4), .val (.int i5), .val (.int (Int32.ofNat cap)), .val (.int (1 : Int32)), .val (.int (i5 &&& (1073741823 : Int32))), .val (.ref b7), .val (.ref b10), .val (.ref b13)] [(.ref b13)])) (fun t k => XS.aload X13.here hx rfl (hb hby at_183) rfl rfl k) ?_
    refine own_by (B := T13.setTop (mkF m 187 #[.val (.int i0), .val (.int i1), .val (.int i2), .val (.int i3), .val (.int i4), .val (.int i5), .val (.int (Int32.ofNat cap)), .val (.int (1 : Int32)), .val (.int (i5 &&& (1073741823 : Int32))), .val (.ref b7), .val (.ref b10), .val (.ref b13)] [(.ref b10), (.ref b13)])) (fun t k => XS.aload X13.here hx rfl (hb hby at_185) rfl rfl k) ?_
    refine own_by (B := T13.setTop (mkF m 192 #[.val (.int i0), .val (.int i1), .val (.int i2), .val (.int i3), .val (.int i4), .val (.int i5), .val (.int (Int32.ofNat cap)), .val (.int (1 : Int32)), .val (.int (i5 &&& (1073741823 : Int32))), .val (.ref b7), .val (.ref b10), .val (.ref b13)] [])) (fun t k => Jvm.RoadKit.acmp (g := (mkF m 187 #[.val (.int i0), .val (.int i1), .val (.int i2), .val (.int i3), .val (.int i4), .val (.int i5), .val (.int (Int32.ofNat cap)), .val (.int (1 : Int32)), .val (.int (i5 &&& (1073741823 : Int32))), .val (.ref b7), .val (.ref b10), .val (.ref b13)] [(.ref b10), (.ref b13)])) X13 hx rfl rfl rfl (pc0 := 187) (pc' := 192) (same := false) rfl (hb hby at_187) rfl (decide_eq_false fun q => (Ne.symm ne_b10_b13) (Value.ref.inj q)) (by decide) (by decide) k) ?_
    refine own_by (B := T13.setTop (mkF m 194 #[.val (.int i0), .val (.int i1), .val (.int i2), .val (.int i3), .val (.int i4), .val (.int i5), .val (.int (Int32.ofNat cap)), .val (.int (1 : Int32)), .val (.int (i5 &&& (1073741823 : Int32))), .val (.ref b7), .val (.ref b10), .val (.ref b13)] [(.ref b13)])) (fun t k => XS.aload X13.here hx rfl (hb hby at_192) rfl rfl k) ?_
    obtain ⟨cl14, Ar14, Sz14, Ng14, -⟩ := id V_b13
    refine own_by (B := T13.setTop (mkF m 195 #[.val (.int i0), .val (.int i1), .val (.int i2), .val (.int i3), .val (.int i4), .val (.int i5), .val (.int (Int32.ofNat cap)), .val (.int (1 : Int32)), .val (.int (i5 &&& (1073741823 : Int32))), .val (.ref b7), .val (.ref b10), .val (.ref b13)] [(.int (1 : Int32))])) (fun t k => X13.arraylength hx Ar14.1 (State.isArrayOf_alike hZ.alike Ar14.2.1) (g := (mkF m 194 #[.val (.int i0), .val (.int i1), .val (.int i2), .val (.int i3), .val (.int i4), .val (.int i5), .val (.int (Int32.ofNat cap)), .val (.int (1 : Int32)), .val (.int (i5 &&& (1073741823 : Int32))), .val (.ref b7), .val (.ref b10), .val (.ref b13)] [(.ref b13)])) rfl rfl (hb hby at_194) _ (by rw [len_of Sz14 Ng14]; exact k)) ?_
    refine own_by (B := T13.setTop (mkF m 197 #[.val (.int i0), .val (.int i1), .val (.int i2), .val (.int i3), .val (.int i4), .val (.int i5), .val (.int (Int32.ofNat cap)), .val (.int (1 : Int32)), .val (.int (i5 &&& (1073741823 : Int32))), .val (.ref b7), .val (.ref b10), .val (.ref b13)] [(.int (1 : Int32)), (.int (1 : Int32))])) (fun t k => XS.iload X13.here hx rfl (hb hby at_195) rfl k) ?_
    refine own_by (B := T13.setTop (mkF m 202 #[.val (.int i0), .val (.int i1), .val (.int i2), .val (.int i3), .val (.int i4), .val (.int i5), .val (.int (Int32.ofNat cap)), .val (.int (1 : Int32)), .val (.int (i5 &&& (1073741823 : Int32))), .val (.ref b7), .val (.ref b10), .val (.ref b13)] [])) (fun t k => XS.icmpYes X13.here hx rfl (pc0 := 197) (pc' := 202) rfl (hb hby at_197) rfl (teq (by decide)).1 (by decide) (by decide) k) ?_
    refine own_by (B := T13.setTop (mkF m 203 #[.val (.int i0), .val (.int i1), .val (.int i2), .val (.int i3), .val (.int i4), .val (.int i5), .val (.int (Int32.ofNat cap)), .val (.int (1 : Int32)), .val (.int (i5 &&& (1073741823 : Int32))), .val (.ref b7), .val (.ref b10), .val (.ref b13)] [(.int (1 : Int32))])) (fun t k => XS.iconst X13.here hx rfl (hb hby at_202) k) ?_
    exact own_end X13 (v := some (.int (1 : Int32))) (fun h => by rw [Bd.returns] at h; cases h) (BodyLoose.notSynchronized Bd) (Q := (Q_rm0 Z i0 i1 i2 i3 i4 i5 h0 n0)) (fun fs hr => retN X13 hx (t := .boolean) Bd.returns (by simp) (hb hby at_203) hr) (show (Q_rm0 Z i0 i1 i2 i3 i4 i5 h0 n0) _ T13.heap _ from (⟨rfl, Nf⟩)) (by decide) (by decide)
  · rw [hq]
    obtain ⟨T15, h15, X15, e15, E15, A15, D15, -, st15⟩ := newO X0 hx hZ hown (hw _ (List.mem_of_getElem? (i := 1) rfl)) (hw _ (List.mem_of_getElem? (i := 2) rfl)) (hw _ (List.mem_of_getElem? (i := 3) rfl)) e0 (g := (mkF m 22 #[.val (.int i0), .val (.int i1), .val (.int i2), .val (.int i3), .val (.int i4), .val (.int i5), .val (.int (Int32.ofNat cap)), .val (.int (2 : Int32)), .val (.int (i5 &&& (1073741823 : Int32))), .unset, .unset, .unset] [])) rfl (hb hby at_22) (by decide) (by decide)
    obtain ⟨b15, gq15⟩ : ∃ z, z = h0.size := ⟨_, rfl⟩
    rw [← gq15] at A15 D15 st15
    have g_b15 : n0 ≤ b15 := Nat.le_trans Zs (Nat.le_of_eq gq15.symm)
    have Zs := Nat.le_trans Zs E15.1
    have E_b15 := A15
    have F_entries_b15 : Fld Z h15 b15 "com/example/surrogate/surrogate/index/Entries" "entries" "[I" .null := D15 (Or.inl (hw _ (List.mem_of_getElem? (i := 12) rfl))) (ty := (.array .int)) (by decide)
    have F_size_b15 : Fld Z h15 b15 "com/example/surrogate/surrogate/index/Entries" "size" "I" (.int (0 : Int32)) := D15 (Or.inl (hw _ (List.mem_of_getElem? (i := 19) rfl))) (ty := .int) (by decide)
    refine own_by (B := T15.setTop (mkF m 25 #[.val (.int i0), .val (.int i1), .val (.int i2), .val (.int i3), .val (.int i4), .val (.int i5), .val (.int (Int32.ofNat cap)), .val (.int (2 : Int32)), .val (.int (i5 &&& (1073741823 : Int32))), .unset, .unset, .unset] [(.ref b15)])) st15 ?_
    refine own_by (B := T15.setTop (mkF m 26 #[.val (.int i0), .val (.int i1), .val (.int i2), .val (.int i3), .val (.int i4), .val (.int i5), .val (.int (Int32.ofNat cap)), .val (.int (2 : Int32)), .val (.int (i5 &&& (1073741823 : Int32))), .unset, .unset, .unset] [(.ref b15), (.ref b15)])) (fun t k => XS.dup X15.here hx rfl (hb hby at_25) rfl rfl k) ?_
    refine own_by (B := T15.setTop (mkF m 28 #[.val (.int i0), .val (.int i1), .val (.int i2), .val (.int i3), .val (.int i4), .val (.int i5), .val (.int (Int32.ofNat cap)), .val (.int (2 : Int32)), .val (.int (i5 &&& (1073741823 : Int32))), .unset, .unset, .unset] [(.int (Int32.ofNat cap)), (.ref b15), (.ref b15)])) (fun t k => XS.iload X15.here hx rfl (hb hby at_26) rfl k) ?_
    obtain ⟨_, _, ⟨T16, L16, k16, n16⟩, -, X16, ⟨Lc16, hQ16, l16, y16, z16⟩, st16⟩ := X15.specialBack hx (y := (⟨"com/example/surrogate/surrogate/index/Entries", "<init>", "(I)V"⟩ : MethodName)) rfl hown (mvT hZ (hw _ (List.mem_of_getElem? (i := 4) rfl))) (mvT hZ (hw _ (List.mem_of_getElem? (i := 5) rfl))) (mvT hZ (hw _ (List.mem_of_getElem? (i := 6) rfl))) (by decide) (backOf (W := 1) (rmI l Z a0 hw [] b15 cap h15 n0 Zs E_b15 F_size_b15 F_entries_b15 g_b15 hcap) hZ (hw _ (List.mem_of_getElem? (i := 6) rfl)) (hw _ (List.mem_of_getElem? (i := 3) rfl)) (by decide) (by decide)) (g := (mkF m 28 #[.val (.int i0), .val (.int i1), .val (.int i2), .val (.int i3), .val (.int i4), .val (.int i5), .val (.int (Int32.ofNat cap)), .val (.int (2 : Int32)), .val (.int (i5 &&& (1073741823 : Int32))), .unset, .unset, .unset] [(.int (Int32.ofNat cap)), (.ref b15), (.ref b15)])) rfl (by rw [hml]; rfl) (Steps.refl _) (a := b15) (argsL := [(.int (Int32.ofNat cap))]) (rest := [(.ref b15)]) (lenOf own_pd2 rfl) rfl (by show 2 * 0 + _ ≤ _; exact Nat.le_of_eq rfl) (hb hby at_28) (fun _ _ => ⟨rfl, e15, (by decide : 1 + 1 ≤ _), (by decide : 2 + 6 ≤ _)⟩)
    dsimp only [Pt.U, Pt.locs, Pt.cells, Pt.slots] at X16 l16 y16 z16 st16 hQ16
    subst l16 y16 z16
    obtain ⟨rfl, Nq16, Kc16, Fs16, b16, f16, g_b16, ne_b15_b16, Fe16, Vc16, hz16⟩ := hQ16
    have Nf := Fr.app Nf Nq16
    have E_b15 := E_b15.keep Kc16
    have Zs := Nat.le_trans Zs Kc16.1
    have F_size_b15 := Fs16
    have F_entries_b15 := Fe16
    have V_b16 := Vc16
    have hint16 : ∀ i, i < 2 * cap → ∃ x, f16 i = .int x := fun i _ => ⟨_, hz16 i⟩
    refine own_by (B := T16.setTop (mkF m 31 #[.val (.int i0), .val (.int i1), .val (.int i2), .val (.int i3), .val (.int i4), .val (.int i5), .val (.int (Int32.ofNat cap)), .val (.int (2 : Int32)), .val (.int (i5 &&& (1073741823 : Int32))), .unset, .unset, .unset] [(.ref b15)])) (fun t k => st16.trans k) ?_
    refine own_by (B := T16.setTop (mkF m 33 #[.val (.int i0), .val (.int i1), .val (.int i2), .val (.int i3), .val (.int i4), .val (.int i5), .val (.int (Int32.ofNat cap)), .val (.int (2 : Int32)), .val (.int (i5 &&& (1073741823 : Int32))), .val (.ref b15), .unset, .unset] [])) (fun t k => XS.astore X16.here hx rfl (hb hby at_31) rfl rfl (l' := #[.val (.int i0), .val (.int i1), .val (.int i2), .val (.int i3), .val (.int i4), .val (.int i5), .val (.int (Int32.ofNat cap)), .val (.int (2 : Int32)), .val (.int (i5 &&& (1073741823 : Int32))), .val (.ref b15), .unset, .unset]) rfl k) ?_
    refine own_by (B := T16.setTop (mkF m 35 #[.val (.int i0), .val (.int i1), .val (.int i2), .val (.int i3), .val (.int i4), .val (.int i5), .val (.int (Int32.ofNat cap)), .val (.int (2 : Int32)), .val (.int (i5 &&& (1073741823 : Int32))), .val (.ref b15), .unset, .unset] [(.int (2 : Int32))])) (fun t k => XS.iload X16.here hx rfl (hb hby at_33) rfl k) ?_
    refine own_by (B := T16.setTop (mkF m 38 #[.val (.int i0), .val (.int i1), .val (.int i2), .val (.int i3), .val (.int i4), .val (.int i5), .val (.int (Int32.ofNat cap)), .val (.int (2 : Int32)), .val (.int (i5 &&& (1073741823 : Int32))), .val (.ref b15), .unset, .unset] [])) (fun t k => XS.ifNo X16.here hx rfl (hb hby at_35) rfl ((if0 _ _).trans (tlt (by decide)).2.2.2) k) ?_
    refine own_by (B := T16.setTop (mkF m 40 #[.val (.int i0), .val (.int i1), .val (.int i2), .val (.int i3), .val (.int i4), .val (.int i5), .val (.int (Int32.ofNat cap)), .val (.int (2 : Int32)), .val (.int (i5 &&& (1073741823 : Int32))), .val (.ref b15), .unset, .unset] [(.ref b15)])) (fun t k => XS.aload X16.here hx rfl (hb hby at_38) rfl rfl k) ?_
    refine own_by (B := T16.setTop (mkF m 42 #[.val (.int i0), .val (.int i1), .val (.int i2), .val (.int i3), .val (.int i4), .val (.int i5), .val (.int (Int32.ofNat cap)), .val (.int (2 : Int32)), .val (.int (i5 &&& (1073741823 : Int32))), .val (.ref b15), .unset, .unset] [(.int (i5 &&& (1073741823 : Int32))), (.ref b15)])) (fun t k => XS.iload X16.here hx rfl (hb hby at_40) rfl k) ?_
    refine own_by (B := T16.setTop (mkF m 43 #[.val (.int i0), .val (.int i1), .val (.int i2), .val (.int i3), .val (.int i4), .val (.int i5), .val (.int (Int32.ofNat cap)), .val (.int (2 : Int32)), .val (.int (i5 &&& (1073741823 : Int32))), .val (.ref b15), .unset, .unset] [(.int i1), (.int (i5 &&& (1073741823 : Int32))), (.ref b15)])) (fun t k => XS.iloadN X16.here hx rfl (hb hby at_42) rfl k) ?_
    obtain ⟨cq17, kq17, q17a, q17b, q17c⟩ := isOf hZ rfl E_b15
    obtain ⟨_, _, ⟨T17, L17, k17, n17⟩, -, X17, ⟨Lc17, hQ17, l17, y17, z17⟩, st17⟩ := X16.virtualBack hx (y := (⟨"com/example/surrogate/surrogate/index/Entries", "add", "(II)V"⟩ : MethodName)) (z := (⟨"com/example/surrogate/surrogate/index/Entries", "add", "(II)V"⟩ : MethodName)) hown (mvT hZ (hw _ (List.mem_of_getElem? (i := 20) rfl))) (mvT hZ (hw _ (List.mem_of_getElem? (i := 21) rfl))) (notFace_of_selects (args := #[]) (mvT hZ (hw _ (List.mem_of_getElem? (i := 23) rfl)))) (mvT hZ (hw _ (List.mem_of_getElem? (i := 23) rfl))) (mvT hZ (hw _ (List.mem_of_getElem? (i := 22) rfl))) (by decide) (backOf (W := 0) (rmA l Z a0 hw [] b15 (i5 &&& (1073741823 : Int32)) i1 b16 0 (2 * cap) f16 T16.heap n0 Zs E_b15 F_size_b15 F_entries_b15 V_b16 hint16 g_b15 g_b16 ne_b15_b16 (by omega) (by omega) (by omega) (by omega)) hZ (hw _ (List.mem_of_getElem? (i := 24) rfl)) (hw _ (List.mem_of_getElem? (i := 3) rfl)) (by decide) (by decide)) q17a q17c (g := (mkF m 43 #[.val (.int i0), .val (.int i1), .val (.int i2), .val (.int i3), .val (.int i4), .val (.int i5), .val (.int (Int32.ofNat cap)), .val (.int (2 : Int32)), .val (.int (i5 &&& (1073741823 : Int32))), .val (.ref b15), .unset, .unset] [(.int i1), (.int (i5 &&& (1073741823 : Int32))), (.ref b15)])) rfl (by rw [hml]; rfl) (Steps.refl _) (argsL := [(.int (i5 &&& (1073741823 : Int32))), (.int i1)]) (rest := []) (lenOf own_pd4 rfl) rfl (by show 2 * 0 + _ ≤ _; exact Nat.le_of_eq rfl) (hb hby at_43) (fun _ _ => ⟨rfl, rfl, (by decide : 2 + 1 ≤ _), (by decide : 8 + 12 ≤ _)⟩)
    dsimp only [Pt.U, Pt.locs, Pt.cells, Pt.slots] at X17 l17 y17 z17 st17 hQ17
    subst l17 y17 z17
    obtain ⟨rfl, Nq17, Kc17, Fs17, b17, mz17, f17, g_b17, ne_b15_b17, Fe17, Vc17, hma17, hmb17, hmc17, hne17, hnf17, hol17, hin17⟩ := hQ17
    have Nf := Fr.app Nf Nq17
    have E_b15 := E_b15.keep Kc17
    have Zs := Nat.le_trans Zs Kc17.1
    have F_size_b15 := Fs17
    have F_entries_b15 := Fe17
    have V_b17 := Vc17
    have hA17_0 : f17 0 = .int (i5 &&& (1073741823 : Int32)) := hne17
    have hB17_0 : f17 1 = .int i1 := hnf17
    refine own_by (B := T17.setTop (mkF m 46 #[.val (.int i0), .val (.int i1), .val (.int i2), .val (.int i3), .val (.int i4), .val (.int i5), .val (.int (Int32.ofNat cap)), .val (.int (2 : Int32)), .val (.int (i5 &&& (1073741823 : Int32))), .val (.ref b15), .unset, .unset] [])) (fun t k => st17.trans k) ?_
    refine own_by (B := T17.setTop (mkF m 48 #[.val (.int i0), .val (.int i1), .val (.int i2), .val (.int i3), .val (.int i4), .val (.int i5), .val (.int (Int32.ofNat cap)), .val (.int (2 : Int32)), .val (.int (i5 &&& (1073741823 : Int32))), .val (.ref b15), .unset, .unset] [(.int (2 : Int32))])) (fun t k => XS.iload X17.here hx rfl (hb hby at_46) rfl k) ?_
    refine own_by (B := T17.setTop (mkF m 49 #[.val (.int i0), .val (.int i1), .val (.int i2), .val (.int i3), .val (.int i4), .val (.int i5), .val (.int (Int32.ofNat cap)), .val (.int (2 : Int32)), .val (.int (i5 &&& (1073741823 : Int32))), .val (.ref b15), .unset, .unset] [(.int (1 : Int32)), (.int (2 : Int32))])) (fun t k => XS.iconst X17.here hx rfl (hb hby at_48) k) ?_
    refine own_by (B := T17.setTop (mkF m 52 #[.val (.int i0), .val (.int i1), .val (.int i2), .val (.int i3), .val (.int i4), .val (.int i5), .val (.int (Int32.ofNat cap)), .val (.int (2 : Int32)), .val (.int (i5 &&& (1073741823 : Int32))), .val (.ref b15), .unset, .unset] [])) (fun t k => XS.icmpNo X17.here hx rfl (hb hby at_49) rfl (tlt (by decide)).2.2.2 k) ?_
    refine own_by (B := T17.setTop (mkF m 54 #[.val (.int i0), .val (.int i1), .val (.int i2), .val (.int i3), .val (.int i4), .val (.int i5), .val (.int (Int32.ofNat cap)), .val (.int (2 : Int32)), .val (.int (i5 &&& (1073741823 : Int32))), .val (.ref b15), .unset, .unset] [(.ref b15)])) (fun t k => XS.aload X17.here hx rfl (hb hby at_52) rfl rfl k) ?_
    refine own_by (B := T17.setTop (mkF m 56 #[.val (.int i0), .val (.int i1), .val (.int i2), .val (.int i3), .val (.int i4), .val (.int i5), .val (.int (Int32.ofNat cap)), .val (.int (2 : Int32)), .val (.int (i5 &&& (1073741823 : Int32))), .val (.ref b15), .unset, .unset] [(.int (i5 &&& (1073741823 : Int32))), (.ref b15)])) (fun t k => XS.iload X17.here hx rfl (hb hby at_54) rfl k) ?_
    refine own_by (B := T17.setTop (mkF m 57 #[.val (.int i0), .val (.int i1), .val (.int i2), .val (.int i3), .val (.int i4), .val (.int i5), .val (.int (Int32.ofNat cap)), .val (.int (2 : Int32)), .val (.int (i5 &&& (1073741823 : Int32))), .val (.ref b15), .unset, .unset] [(.int (1 : Int32)), (.int (i5 &&& (1073741823 : Int32))), (.ref b15)])) (fun t k => XS.iconst X17.here hx rfl (hb hby at_56) k) ?_
    refine own_by (B := T17.setTop (mkF m 58 #[.val (.int i0), .val (.int i1), .val (.int i2), .val (.int i3), .val (.int i4), .val (.int i5), .val (.int (Int32.ofNat cap)), .val (.int (2 : Int32)), .val (.int (i5 &&& (1073741823 : Int32))), .val (.ref b15), .unset, .unset] [(.int ((i5 &&& (1073741823 : Int32)) + (1 : Int32))), (.ref b15)])) (fun t k => XS.iadd X17.here hx rfl (hb hby at_57) rfl k) ?_
    refine own_by (B := T17.setTop (mkF m 59 #[.val (.int i0), .val (.int i1), .val (.int i2), .val (.int i3), .val (.int i4), .val (.int i5), .val (.int (Int32.ofNat cap)), .val (.int (2 : Int32)), .val (.int (i5 &&& (1073741823 : Int32))), .val (.ref b15), .unset, .unset] [(.int i2), (.int ((i5 &&& (1073741823 : Int32)) + (1 : Int32))), (.ref b15)])) (fun t k => XS.iloadN X17.here hx rfl (hb hby at_58) rfl k) ?_
    obtain ⟨cq18, kq18, q18a, q18b, q18c⟩ := isOf hZ rfl E_b15
    obtain ⟨_, _, ⟨T18, L18, k18, n18⟩, -, X18, ⟨Lc18, hQ18, l18, y18, z18⟩, st18⟩ := X17.virtualBack hx (y := (⟨"com/example/surrogate/surrogate/index/Entries", "add", "(II)V"⟩ : MethodName)) (z := (⟨"com/example/surrogate/surrogate/index/Entries", "add", "(II)V"⟩ : MethodName)) hown (mvT hZ (hw _ (List.mem_of_getElem? (i := 20) rfl))) (mvT hZ (hw _ (List.mem_of_getElem? (i := 21) rfl))) (notFace_of_selects (args := #[]) (mvT hZ (hw _ (List.mem_of_getElem? (i := 23) rfl)))) (mvT hZ (hw _ (List.mem_of_getElem? (i := 23) rfl))) (mvT hZ (hw _ (List.mem_of_getElem? (i := 22) rfl))) (by decide) (backOf (W := 0) (rmA l Z a0 hw [] b15 ((i5 &&& (1073741823 : Int32)) + (1 : Int32)) i2 b17 1 mz17 f17 T17.heap n0 Zs E_b15 F_size_b15 F_entries_b15 V_b17 hin17 g_b15 g_b17 ne_b15_b17 (by omega) (by omega) (by omega) (by omega)) hZ (hw _ (List.mem_of_getElem? (i := 24) rfl)) (hw _ (List.mem_of_getElem? (i := 3) rfl)) (by decide) (by decide)) q18a q18c (g := (mkF m 59 #[.val (.int i0), .val (.int i1), .val (.int i2), .val (.int i3), .val (.int i4), .val (.int i5), .val (.int (Int32.ofNat cap)), .val (.int (2 : Int32)), .val (.int (i5 &&& (1073741823 : Int32))), .val (.ref b15), .unset, .unset] [(.int i2), (.int ((i5 &&& (1073741823 : Int32)) + (1 : Int32))), (.ref b15)])) rfl (by rw [hml]; rfl) (Steps.refl _) (argsL := [(.int ((i5 &&& (1073741823 : Int32)) + (1 : Int32))), (.int i2)]) (rest := []) (lenOf own_pd4 rfl) rfl (by show 2 * 0 + _ ≤ _; exact Nat.le_of_eq rfl) (hb hby at_59) (fun _ _ => ⟨rfl, rfl, (by decide : 3 + 1 ≤ _), (by decide : 20 + 12 ≤ _)⟩)
    dsimp only [Pt.U, Pt.locs, Pt.cells, Pt.slots] at X18 l18 y18 z18 st18 hQ18
    subst l18 y18 z18
    obtain ⟨rfl, Nq18, Kc18, Fs18, b18, mz18, f18, g_b18, ne_b15_b18, Fe18, Vc18, hma18, hmb18, hmc18, hne18, hnf18, hol18, hin18⟩ := hQ18
    have Nf := Fr.app Nf Nq18
    have E_b15 := E_b15.keep Kc18
    have Zs := Nat.le_trans Zs Kc18.1
    have F_size_b15 := Fs18
    have F_entries_b15 := Fe18
    have V_b18 := Vc18
    have hA18_0 : f18 0 = .int (i5 &&& (1073741823 : Int32)) := (hol18 0 (by omega)).trans hA17_0
    have hB18_0 : f18 1 = .int i1 := (hol18 1 (by omega)).trans hB17_0
    have hA18_1 : f18 2 = .int ((i5 &&& (1073741823 : Int32)) + (1 : Int32)) := hne18
    have hB18_1 : f18 3 = .int i2 := hnf18
    refine own_by (B := T18.setTop (mkF m 62 #[.val (.int i0), .val (.int i1), .val (.int i2), .val (.int i3), .val (.int i4), .val (.int i5), .val (.int (Int32.ofNat cap)), .val (.int (2 : Int32)), .val (.int (i5 &&& (1073741823 : Int32))), .val (.ref b15), .unset, .unset] [])) (fun t k => st18.trans k) ?_
    refine own_by (B := T18.setTop (mkF m 64 #[.val (.int i0), .val (.int i1), .val (.int i2), .val (.int i3), .val (.int i4), .val (.int i5), .val (.int (Int32.ofNat cap)), .val (.int (2 : Int32)), .val (.int (i5 &&& (1073741823 : Int32))), .val (.ref b15), .unset, .unset] [(.int (2 : Int32))])) (fun t k => XS.iload X18.here hx rfl (hb hby at_62) rfl k) ?_
    refine own_by (B := T18.setTop (mkF m 65 #[.val (.int i0), .val (.int i1), .val (.int i2), .val (.int i3), .val (.int i4), .val (.int i5), .val (.int (Int32.ofNat cap)), .val (.int (2 : Int32)), .val (.int (i5 &&& (1073741823 : Int32))), .val (.ref b15), .unset, .unset] [(.int (2 : Int32)), (.int (2 : Int32))])) (fun t k => XS.iconst X18.here hx rfl (hb hby at_64) k) ?_
    refine own_by (B := T18.setTop (mkF m 78 #[.val (.int i0), .val (.int i1), .val (.int i2), .val (.int i3), .val (.int i4), .val (.int i5), .val (.int (Int32.ofNat cap)), .val (.int (2 : Int32)), .val (.int (i5 &&& (1073741823 : Int32))), .val (.ref b15), .unset, .unset] [])) (fun t k => XS.icmpYes X18.here hx rfl (pc0 := 65) (pc' := 78) rfl (hb hby at_65) rfl (flt (by decide)).2.2.2 (by decide) (by decide) k) ?_
    refine own_by (B := T18.setTop (mkF m 80 #[.val (.int i0), .val (.int i1), .val (.int i2), .val (.int i3), .val (.int i4), .val (.int i5), .val (.int (Int32.ofNat cap)), .val (.int (2 : Int32)), .val (.int (i5 &&& (1073741823 : Int32))), .val (.ref b15), .unset, .unset] [(.int (2 : Int32))])) (fun t k => XS.iload X18.here hx rfl (hb hby at_78) rfl k) ?_
    refine own_by (B := T18.setTop (mkF m 81 #[.val (.int i0), .val (.int i1), .val (.int i2), .val (.int i3), .val (.int i4), .val (.int i5), .val (.int (Int32.ofNat cap)), .val (.int (2 : Int32)), .val (.int (i5 &&& (1073741823 : Int32))), .val (.ref b15), .unset, .unset] [(.int (3 : Int32)), (.int (2 : Int32))])) (fun t k => XS.iconst X18.here hx rfl (hb hby at_80) k) ?_
    refine own_by (B := T18.setTop (mkF m 95 #[.val (.int i0), .val (.int i1), .val (.int i2), .val (.int i3), .val (.int i4), .val (.int i5), .val (.int (Int32.ofNat cap)), .val (.int (2 : Int32)), .val (.int (i5 &&& (1073741823 : Int32))), .val (.ref b15), .unset, .unset] [])) (fun t k => XS.icmpYes X18.here hx rfl (pc0 := 81) (pc' := 95) rfl (hb hby at_81) rfl (flt (by decide)).2.2.2 (by decide) (by decide) k) ?_
    refine own_by (B := T18.setTop (mkF m 97 #[.val (.int i0), .val (.int i1), .val (.int i2), .val (.int i3), .val (.int i4), .val (.int i5), .val (.int (Int32.ofNat cap)), .val (.int (2 : Int32)), .val (.int (i5 &&& (1073741823 : Int32))), .val (.ref b15), .unset, .unset] [(.ref b15)])) (fun t k => XS.aload X18.here hx rfl (hb hby at_95) rfl rfl k) ?_
    obtain ⟨cq19, kq19, q19a, q19b, q19c⟩ := isOf hZ rfl E_b15
    obtain ⟨_, _, ⟨T19, L19, k19, n19⟩, -, X19, ⟨Lc19, hQ19, l19, y19, z19⟩, st19⟩ := X18.virtualBack hx (y := (⟨"com/example/surrogate/surrogate/index/Entries", "frequencies", "()[I"⟩ : MethodName)) (z := (⟨"com/example/surrogate/surrogate/index/Entries", "frequencies", "()[I"⟩ : MethodName)) hown (mvT hZ (hw _ (List.mem_of_getElem? (i := 13) rfl))) (mvT hZ (hw _ (List.mem_of_getElem? (i := 14) rfl))) (notFace_of_selects (args := #[]) (mvT hZ (hw _ (List.mem_of_getElem? (i := 16) rfl)))) (mvT hZ (hw _ (List.mem_of_getElem? (i := 16) rfl))) (mvT hZ (hw _ (List.mem_of_getElem? (i := 15) rfl))) (by decide) (backOf (W := 0) (rmF2 l Z a0 hw [] b15 b18 mz18 f18 i1 i2 T18.heap n0 Zs F_size_b15 F_entries_b15 V_b18 ne_b15_b18 (by omega) (by omega) hB18_0 hB18_1) hZ (hw _ (List.mem_of_getElem? (i := 17) rfl)) (hw _ (List.mem_of_getElem? (i := 3) rfl)) (by decide) (by decide)) q19a q19c (g := (mkF m 97 #[.val (.int i0), .val (.int i1), .val (.int i2), .val (.int i3), .val (.int i4), .val (.int i5), .val (.int (Int32.ofNat cap)), .val (.int (2 : Int32)), .val (.int (i5 &&& (1073741823 : Int32))), .val (.ref b15), .unset, .unset] [(.ref b15)])) rfl (by rw [hml]; rfl) (Steps.refl _) (argsL := []) (rest := []) (lenOf own_pd3 rfl) rfl (by show 2 * 0 + _ ≤ _; exact Nat.le_of_eq rfl) (hb hby at_97) (fun _ _ => ⟨rfl, rfl, (by decide : 4 + 1 ≤ _), (by decide : 32 + 2 ≤ _)⟩)
    dsimp only [Pt.U, Pt.locs, Pt.cells, Pt.slots] at X19 l19 y19 z19 st19 hQ19
    subst l19 y19 z19
    obtain ⟨rfl, Nq19, Kc19, g19, Vc19, hg19_0, hg19_1⟩ := hQ19
    have Nf := Fr.app Nf Nq19
    obtain ⟨b19, gq19⟩ : ∃ z, z = T18.heap.size := ⟨_, rfl⟩
    rw [← gq19] at Vc19 st19
    have ne_b15_b19 : b15 ≠ b19 := Nat.ne_of_lt (Nat.lt_of_lt_of_le E_b15.lt (Nat.le_of_eq gq19.symm))
    have ne_b18_b19 : b18 ≠ b19 := Nat.ne_of_lt (Nat.lt_of_lt_of_le V_b18.lt (Nat.le_of_eq gq19.symm))
    have g_b19 : n0 ≤ b19 := Nat.le_trans Zs (Nat.le_of_eq gq19.symm)
    have E_b15 := E_b15.keep Kc19
    have F_size_b15 := F_size_b15.keep Kc19 nin0
    have F_entries_b15 := F_entries_b15.keep Kc19 nin0
    have V_b18 := V_b18.keep Kc19 nin0
    have Zs := Nat.le_trans Zs Kc19.1
    have V_b19 := Vc19
    refine own_by (B := T19.setTop (mkF m 100 #[.val (.int i0), .val (.int i1), .val (.int i2), .val (.int i3), .val (.int i4), .val (.int i5), .val (.int (Int32.ofNat cap)), .val (.int (2 : Int32)), .val (.int (i5 &&& (1073741823 : Int32))), .val (.ref b15), .unset, .unset] [(.ref b19)])) (fun t k => st19.trans k) ?_
    refine own_by (B := T19.setTop (mkF m 102 #[.val (.int i0), .val (.int i1), .val (.int i2), .val (.int i3), .val (.int i4), .val (.int i5), .val (.int (Int32.ofNat cap)), .val (.int (2 : Int32)), .val (.int (i5 &&& (1073741823 : Int32))), .val (.ref b15), .val (.ref b19), .unset] [])) (fun t k => XS.astore X19.here hx rfl (hb hby at_100) rfl rfl (l' := #[.val (.int i0), .val (.int i1), .val (.int i2), .val (.int i3), .val (.int i4), .val (.int i5), .val (.int (Int32.ofNat cap)), .val (.int (2 : Int32)), .val (.int (i5 &&& (1073741823 : Int32))), .val (.ref b15), .val (.ref b19), .unset]) rfl k) ?_
    refine own_by (B := T19.setTop (mkF m 104 #[.val (.int i0), .val (.int i1), .val (.int i2), .val (.int i3), .val (.int i4), .val (.int i5), .val (.int (Int32.ofNat cap)), .val (.int (2 : Int32)), .val (.int (i5 &&& (1073741823 : Int32))), .val (.ref b15), .val (.ref b19), .unset] [(.ref b19)])) (fun t k => XS.aload X19.here hx rfl (hb hby at_102) rfl rfl k) ?_
    obtain ⟨cl20, Ar20, Sz20, Ng20, -⟩ := id V_b19
    refine own_by (B := T19.setTop (mkF m 105 #[.val (.int i0), .val (.int i1), .val (.int i2), .val (.int i3), .val (.int i4), .val (.int i5), .val (.int (Int32.ofNat cap)), .val (.int (2 : Int32)), .val (.int (i5 &&& (1073741823 : Int32))), .val (.ref b15), .val (.ref b19), .unset] [(.int (2 : Int32))])) (fun t k => X19.arraylength hx Ar20.1 (State.isArrayOf_alike hZ.alike Ar20.2.1) (g := (mkF m 104 #[.val (.int i0), .val (.int i1), .val (.int i2), .val (.int i3), .val (.int i4), .val (.int i5), .val (.int (Int32.ofNat cap)), .val (.int (2 : Int32)), .val (.int (i5 &&& (1073741823 : Int32))), .val (.ref b15), .val (.ref b19), .unset] [(.ref b19)])) rfl rfl (hb hby at_104) _ (by rw [len_of Sz20 Ng20]; exact k)) ?_
    refine own_by (B := T19.setTop (mkF m 107 #[.val (.int i0), .val (.int i1), .val (.int i2), .val (.int i3), .val (.int i4), .val (.int i5), .val (.int (Int32.ofNat cap)), .val (.int (2 : Int32)), .val (.int (i5 &&& (1073741823 : Int32))), .val (.ref b15), .val (.ref b19), .unset] [(.int (2 : Int32)), (.int (2 : Int32))])) (fun t k => XS.iload X19.here hx rfl (hb hby at_105) rfl k) ?_
    refine own_by (B := T19.setTop (mkF m 112 #[.val (.int i0), .val (.int i1), .val (.int i2), .val (.int i3), .val (.int i4), .val (.int i5), .val (.int (Int32.ofNat cap)), .val (.int (2 : Int32)), .val (.int (i5 &&& (1073741823 : Int32))), .val (.ref b15), .val (.ref b19), .unset] [])) (fun t k => XS.icmpYes X19.here hx rfl (pc0 := 107) (pc' := 112) rfl (hb hby at_107) rfl (teq (by decide)).1 (by decide) (by decide) k) ?_
    refine own_by (B := T19.setTop (mkF m 114 #[.val (.int i0), .val (.int i1), .val (.int i2), .val (.int i3), .val (.int i4), .val (.int i5), .val (.int (Int32.ofNat cap)), .val (.int (2 : Int32)), .val (.int (i5 &&& (1073741823 : Int32))), .val (.ref b15), .val (.ref b19), .unset] [(.int (2 : Int32))])) (fun t k => XS.iload X19.here hx rfl (hb hby at_112) rfl k) ?_
    refine own_by (B := T19.setTop (mkF m 117 #[.val (.int i0), .val (.int i1), .val (.int i2), .val (.int i3), .val (.int i4), .val (.int i5), .val (.int (Int32.ofNat cap)), .val (.int (2 : Int32)), .val (.int (i5 &&& (1073741823 : Int32))), .val (.ref b15), .val (.ref b19), .unset] [])) (fun t k => XS.ifNo X19.here hx rfl (hb hby at_114) rfl ((if0 _ _).trans (tlt (by decide)).2.2.2) k) ?_
    refine own_by (B := T19.setTop (mkF m 119 #[.val (.int i0), .val (.int i1), .val (.int i2), .val (.int i3), .val (.int i4), .val (.int i5), .val (.int (Int32.ofNat cap)), .val (.int (2 : Int32)), .val (.int (i5 &&& (1073741823 : Int32))), .val (.ref b15), .val (.ref b19), .unset] [(.ref b19)])) (fun t k => XS.aload X19.here hx rfl (hb hby at_117) rfl rfl k) ?_
    refine own_by (B := T19.setTop (mkF m 120 #[.val (.int i0), .val (.int i1), .val (.int i2), .val (.int i3), .val (.int i4), .val (.int i5), .val (.int (Int32.ofNat cap)), .val (.int (2 : Int32)), .val (.int (i5 &&& (1073741823 : Int32))), .val (.ref b15), .val (.ref b19), .unset] [(.int (0 : Int32)), (.ref b19)])) (fun t k => XS.iconst X19.here hx rfl (hb hby at_119) k) ?_
    obtain ⟨cl21, Ar21, hin21, hat21⟩ := V_b19.at (j := (0 : Int32)) ⟨by decide, by decide⟩
    have hat21 := hat21.trans (congrArg some (show _ = (.int i1) from hg19_0))
    refine own_by (B := T19.setTop (mkF m 121 #[.val (.int i0), .val (.int i1), .val (.int i2), .val (.int i3), .val (.int i4), .val (.int i5), .val (.int (Int32.ofNat cap)), .val (.int (2 : Int32)), .val (.int (i5 &&& (1073741823 : Int32))), .val (.ref b15), .val (.ref b19), .unset] [(.int i1)])) (fun t k => X19.iaload hx (j := (0 : Int32)) (v := (.int i1)) Ar21.1 (State.isArrayOf_alike hZ.alike Ar21.2.1) Ar21.2.2 hin21 hat21 (g := (mkF m 120 #[.val (.int i0), .val (.int i1), .val (.int i2), .val (.int i3), .val (.int i4), .val (.int i5), .val (.int (Int32.ofNat cap)), .val (.int (2 : Int32)), .val (.int (i5 &&& (1073741823 : Int32))), .val (.ref b15), .val (.ref b19), .unset] [(.int (0 : Int32)), (.ref b19)])) rfl rfl (hb hby at_120) _ k) ?_
    refine own_by (B := T19.setTop (mkF m 122 #[.val (.int i0), .val (.int i1), .val (.int i2), .val (.int i3), .val (.int i4), .val (.int i5), .val (.int (Int32.ofNat cap)), .val (.int (2 : Int32)), .val (.int (i5 &&& (1073741823 : Int32))), .val (.ref b15), .val (.ref b19), .unset] [(.int i1), (.int i1)])) (fun t k => XS.iloadN X19.here hx rfl (hb hby at_121) rfl k) ?_
    refine own_by (B := T19.setTop (mkF m 127 #[.val (.int i0), .val (.int i1), .val (.int i2), .val (.int i3), .val (.int i4), .val (.int i5), .val (.int (Int32.ofNat cap)), .val (.int (2 : Int32)), .val (.int (i5 &&& (1073741823 : Int32))), .val (.ref b15), .val (.ref b19), .unset] [])) (fun t k => XS.icmpYes X19.here hx rfl (pc0 := 122) (pc' := 127) rfl (hb hby at_122) rfl (teq rfl).1 (by decide) (by decide) k) ?_
    refine own_by (B := T19.setTop (mkF m 129 #[.val (.int i0), .val (.int i1), .val (.int i2), .val (.int i3), .val (.int i4), .val (.int i5), .val (.int (Int32.ofNat cap)), .val (.int (2 : Int32)), .val (.int (i5 &&& (1073741823 : Int32))), .val (.ref b15), .val (.ref b19), .unset] [(.int (2 : Int32))])) (fun t k => XS.iload X19.here hx rfl (hb hby at_127) rfl k) ?_
    refine own_by (B := T19.setTop (mkF m 130 #[.val (.int i0), .val (.int i1), .val (.int i2), .val (.int i3), .val (.int i4), .val (.int i5), .val (.int (Int32.ofNat cap)), .val (.int (2 : Int32)), .val (.int (i5 &&& (1073741823 : Int32))), .val (.ref b15), .val (.ref b19), .unset] [(.int (1 : Int32)), (.int (2 : Int32))])) (fun t k => XS.iconst X19.here hx rfl (hb hby at_129) k) ?_
    refine own_by (B := T19.setTop (mkF m 133 #[.val (.int i0), .val (.int i1), .val (.int i2), .val (.int i3), .val (.int i4), .val (.int i5), .val (.int (Int32.ofNat cap)), .val (.int (2 : Int32)), .val (.int (i5 &&& (1073741823 : Int32))), .val (.ref b15), .val (.ref b19), .unset] [])) (fun t k => XS.icmpNo X19.here hx rfl (hb hby at_130) rfl (tlt (by decide)).2.2.2 k) ?_
    refine own_by (B := T19.setTop (mkF m 135 #[.val (.int i0), .val (.int i1), .val (.int i2), .val (.int i3), .val (.int i4), .val (.int i5), .val (.int (Int32.ofNat cap)), .val (.int (2 : Int32)), .val (.int (i5 &&& (1073741823 : Int32))), .val (.ref b15), .val (.ref b19), .unset] [(.ref b19)])) (fun t k => XS.aload X19.here hx rfl (hb hby at_133) rfl rfl k) ?_
    refine own_by (B := T19.setTop (mkF m 136 #[.val (.int i0), .val (.int i1), .val (.int i2), .val (.int i3), .val (.int i4), .val (.int i5), .val (.int (Int32.ofNat cap)), .val (.int (2 : Int32)), .val (.int (i5 &&& (1073741823 : Int32))), .val (.ref b15), .val (.ref b19), .unset] [(.int (1 : Int32)), (.ref b19)])) (fun t k => XS.iconst X19.here hx rfl (hb hby at_135) k) ?_
    obtain ⟨cl22, Ar22, hin22, hat22⟩ := V_b19.at (j := (1 : Int32)) ⟨by decide, by decide⟩
    have hat22 := hat22.trans (congrArg some (show _ = (.int i2) from hg19_1))
    refine own_by (B := T19.setTop (mkF m 137 #[.val (.int i0), .val (.int i1), .val (.int i2), .val (.int i3), .val (.int i4), .val (.int i5), .val (.int (Int32.ofNat cap)), .val (.int (2 : Int32)), .val (.int (i5 &&& (1073741823 : Int32))), .val (.ref b15), .val (.ref b19), .unset] [(.int i2)])) (fun t k => X19.iaload hx (j := (1 : Int32)) (v := (.int i2)) Ar22.1 (State.isArrayOf_alike hZ.alike Ar22.2.1) Ar22.2.2 hin22 hat22 (g := (mkF m 136 #[.val (.int i0), .val (.int i1), .val (.int i2), .val (.int i3), .val (.int i4), .val (.int i5), .val (.int (Int32.ofNat cap)), .val (.int (2 : Int32)), .val (.int (i5 &&& (1073741823 : Int32))), .val (.ref b15), .val (.ref b19), .unset] [(.int (1 : Int32)), (.ref b19)])) rfl rfl (hb hby at_136) _ k) ?_
    refine own_by (B := T19.setTop (mkF m 138 #[.val (.int i0), .val (.int i1), .val (.int i2), .val (.int i3), .val (.int i4), .val (.int i5), .val (.int (Int32.ofNat cap)), .val (.int (2 : Int32)), .val (.int (i5 &&& (1073741823 : Int32))), .val (.ref b15), .val (.ref b19), .unset] [(.int i2), (.int i2)])) (fun t k => XS.iloadN X19.here hx rfl (hb hby at_137) rfl k) ?_
    refine own_by (B := T19.setTop (mkF m 143 #[.val (.int i0), .val (.int i1), .val (.int i2), .val (.int i3), .val (.int i4), .val (.int i5), .val (.int (Int32.ofNat cap)), .val (.int (2 : Int32)), .val (.int (i5 &&& (1073741823 : Int32))), .val (.ref b15), .val (.ref b19), .unset] [])) (fun t k => XS.icmpYes X19.here hx rfl (pc0 := 138) (pc' := 143) rfl (hb hby at_138) rfl (teq rfl).1 (by decide) (by decide) k) ?_
    refine own_by (B := T19.setTop (mkF m 145 #[.val (.int i0), .val (.int i1), .val (.int i2), .val (.int i3), .val (.int i4), .val (.int i5), .val (.int (Int32.ofNat cap)), .val (.int (2 : Int32)), .val (.int (i5 &&& (1073741823 : Int32))), .val (.ref b15), .val (.ref b19), .unset] [(.int (2 : Int32))])) (fun t k => XS.iload X19.here hx rfl (hb hby at_143) rfl k) ?_
    refine own_by (B := T19.setTop (mkF m 146 #[.val (.int i0), .val (.int i1), .val (.int i2), .val (.int i3), .val (.int i4), .val (.int i5), .val (.int (Int32.ofNat cap)), .val (.int (2 : Int32)), .val (.int (i5 &&& (1073741823 : Int32))), .val (.ref b15), .val (.ref b19), .unset] [(.int (2 : Int32)), (.int (2 : Int32))])) (fun t k => XS.iconst X19.here hx rfl (hb hby at_145) k) ?_
    refine own_by (B := T19.setTop (mkF m 159 #[.val (.int i0), .val (.int i1), .val (.int i2), .val (.int i3), .val (.int i4), .val (.int i5), .val (.int (Int32.ofNat cap)), .val (.int (2 : Int32)), .val (.int (i5 &&& (1073741823 : Int32))), .val (.ref b15), .val (.ref b19), .unset] [])) (fun t k => XS.icmpYes X19.here hx rfl (pc0 := 146) (pc' := 159) rfl (hb hby at_146) rfl (flt (by decide)).2.2.2 (by decide) (by decide) k) ?_
    refine own_by (B := T19.setTop (mkF m 161 #[.val (.int i0), .val (.int i1), .val (.int i2), .val (.int i3), .val (.int i4), .val (.int i5), .val (.int (Int32.ofNat cap)), .val (.int (2 : Int32)), .val (.int (i5 &&& (1073741823 : Int32))), .val (.ref b15), .val (.ref b19), .unset] [(.int (2 : Int32))])) (fun t k => XS.iload X19.here hx rfl (hb hby at_159) rfl k) ?_
    refine own_by (B := T19.setTop (mkF m 162 #[.val (.int i0), .val (.int i1), .val (.int i2), .val (.int i3), .val (.int i4), .val (.int i5), .val (.int (Int32.ofNat cap)), .val (.int (2 : Int32)), .val (.int (i5 &&& (1073741823 : Int32))), .val (.ref b15), .val (.ref b19), .unset] [(.int (3 : Int32)), (.int (2 : Int32))])) (fun t k => XS.iconst X19.here hx rfl (hb hby at_161) k) ?_
    refine own_by (B := T19.setTop (mkF m 176 #[.val (.int i0), .val (.int i1), .val (.int i2), .val (.int i3), .val (.int i4), .val (.int i5), .val (.int (Int32.ofNat cap)), .val (.int (2 : Int32)), .val (.int (i5 &&& (1073741823 : Int32))), .val (.ref b15), .val (.ref b19), .unset] [])) (fun t k => XS.icmpYes X19.here hx rfl (pc0 := 162) (pc' := 176) rfl (hb hby at_162) rfl (flt (by decide)).2.2.2 (by decide) (by decide) k) ?_
    refine own_by (B := T19.setTop (mkF m 178 #[.val (.int i0), .val (.int i1), .val (.int i2), .val (.int i3), .val (.int i4), .val (.int i5), .val (.int (Int32.ofNat cap)), .val (.int (2 : Int32)), .val (.int (i5 &&& (1073741823 : Int32))), .val (.ref b15), .val (.ref b19), .unset] [(.ref b15)])) (fun t k => XS.aload X19.here hx rfl (hb hby at_176) rfl rfl k) ?_
    obtain ⟨cq23, kq23, q23a, q23b, q23c⟩ := isOf hZ rfl E_b15
    obtain ⟨_, _, ⟨T23, L23, k23, n23⟩, -, X23, ⟨Lc23, hQ23, l23, y23, z23⟩, st23⟩ := X19.virtualBack hx (y := (⟨"com/example/surrogate/surrogate/index/Entries", "frequencies", "()[I"⟩ : MethodName)) (z := (⟨"com/example/surrogate/surrogate/index/Entries", "frequencies", "()[I"⟩ : MethodName)) hown (mvT hZ (hw _ (List.mem_of_getElem? (i := 13) rfl))) (mvT hZ (hw _ (List.mem_of_getElem? (i := 14) rfl))) (notFace_of_selects (args := #[]) (mvT hZ (hw _ (List.mem_of_getElem? (i := 16) rfl)))) (mvT hZ (hw _ (List.mem_of_getElem? (i := 16) rfl))) (mvT hZ (hw _ (List.mem_of_getElem? (i := 15) rfl))) (by decide) (backOf (W := 0) (rmF2 l Z a0 hw [] b15 b18 mz18 f18 i1 i2 T19.heap n0 Zs F_size_b15 F_entries_b15 V_b18 ne_b15_b18 (by omega) (by omega) hB18_0 hB18_1) hZ (hw _ (List.mem_of_getElem? (i := 17) rfl)) (hw _ (List.mem_of_getElem? (i := 3) rfl)) (by decide) (by decide)) q23a q23c (g := (mkF m 178 #[.val (.int i0), .val (.int i1), .val (.int i2), .val (.int i3), .val (.int i4), .val (.int i5), .val (.int (Int32.ofNat cap)), .val (.int (2 : Int32)), .val (.int (i5 &&& (1073741823 : Int32))), .val (.ref b15), .val (.ref b19), .unset] [(.ref b15)])) rfl (by rw [hml]; rfl) (Steps.refl _) (argsL := []) (rest := []) (lenOf own_pd3 rfl) rfl (by show 2 * 0 + _ ≤ _; exact Nat.le_of_eq rfl) (hb hby at_178) (fun _ _ => ⟨rfl, rfl, (by decide : 5 + 1 ≤ _), (by decide : 34 + 2 ≤ _)⟩)
    dsimp only [Pt.U, Pt.locs, Pt.cells, Pt.slots] at X23 l23 y23 z23 st23 hQ23
    subst l23 y23 z23
    obtain ⟨rfl, Nq23, Kc23, g23, Vc23, hg23_0, hg23_1⟩ := hQ23
    have Nf := Fr.app Nf Nq23
    obtain ⟨b23, gq23⟩ : ∃ z, z = T19.heap.size := ⟨_, rfl⟩
    rw [← gq23] at Vc23 st23
    have ne_b15_b23 : b15 ≠ b23 := Nat.ne_of_lt (Nat.lt_of_lt_of_le E_b15.lt (Nat.le_of_eq gq23.symm))
    have ne_b18_b23 : b18 ≠ b23 := Nat.ne_of_lt (Nat.lt_of_lt_of_le V_b18.lt (Nat.le_of_eq gq23.symm))
    have ne_b19_b23 : b19 ≠ b23 := Nat.ne_of_lt (Nat.lt_of_lt_of_le V_b19.lt (Nat.le_of_eq gq23.symm))
    have g_b23 : n0 ≤ b23 := Nat.le_trans Zs (Nat.le_of_eq gq23.symm)
    have E_b15 := E_b15.keep Kc23
    have F_size_b15 := F_size_b15.keep Kc23 nin0
    have F_entries_b15 := F_entries_b15.keep Kc23 nin0
    have V_b18 := V_b18.keep Kc23 nin0
    have V_b19 := V_b19.keep Kc23 nin0
    have Zs := Nat.le_trans Zs Kc23.1
    have V_b23 := Vc23
    refine own_by (B := T23.setTop (mkF m 181 #[.val (.int i0), .val (.int i1), .val (.int i2), .val (.int i3), .val (.int i4), .val (.int i5), .val (.int (Int32.ofNat cap)), .val (.int (2 : Int32)), .val (.int (i5 &&& (1073741823 : Int32))), .val (.ref b15), .val (.ref b19), .unset] [(.ref b23)])) (fun t k => st23.trans k) ?_
    refine own_by (B := T23.setTop (mkF m 183 #[.val (.int i0), .val (.int i1), .val (.int i2), .val (.int i3), .val (.int i4), .val (.int i5), .val (.int (Int32.ofNat cap)), .val (.int (2 : Int32)), .val (.int (i5 &&& (1073741823 : Int32))), .val (.ref b15), .val (.ref b19), .val (.ref b23)] [])) (fun t k => XS.astore X23.here hx rfl (hb hby at_181) rfl rfl (l' := #[.val (.int i0), .val (.int i1), .val (.int i2), .val (.int i3), .val (.int i4), .val (.int i5), .val (.int (Int32.ofNat cap)), .val (.int (2 : Int32)), .val (.int (i5 &&& (1073741823 : Int32))), .val (.ref b15), .val (.ref b19), .val (.ref b23)]) rfl k) ?_
    refine own_by (B := T23.setTop (mkF m 185 #[.val (.int i0), .val (.int i1), .val (.int i2), .val (.int i3), .val (.int i4), .val (.int i5), .val (.int (Int32.ofNat cap)), .val (.int (2 : Int32)), .val (.int (i5 &&& (1073741823 : Int32))), .val (.ref b15), .val (.ref b19), .val (.ref b23)] [(.ref b23)])) (fun t k => XS.aload X23.here hx rfl (hb hby at_183) rfl rfl k) ?_
    refine own_by (B := T23.setTop (mkF m 187 #[.val (.int i0), .val (.int i1), .val (.int i2), .val (.int i3), .val (.int i4), .val (.int i5), .val (.int (Int32.ofNat cap)), .val (.int (2 : Int32)), .val (.int (i5 &&& (1073741823 : Int32))), .val (.ref b15), .val (.ref b19), .val (.ref b23)] [(.ref b19), (.ref b23)])) (fun t k => XS.aload X23.here hx rfl (hb hby at_185) rfl rfl k) ?_
    refine own_by (B := T23.setTop (mkF m 192 #[.val (.int i0), .val (.int i1), .val (.int i2), .val (.int i3), .val (.int i4), .val (.int i5), .val (.int (Int32.ofNat cap)), .val (.int (2 : Int32)), .val (.int (i5 &&& (1073741823 : Int32))), .val (.ref b15), .val (.ref b19), .val (.ref b23)] [])) (fun t k => Jvm.RoadKit.acmp (g := (mkF m 187 #[.val (.int i0), .val (.int i1), .val (.int i2), .val (.int i3), .val (.int i4), .val (.int i5), .val (.int (Int32.ofNat cap)), .val (.int (2 : Int32)), .val (.int (i5 &&& (1073741823 : Int32))), .val (.ref b15), .val (.ref b19), .val (.ref b23)] [(.ref b19), (.ref b23)])) X23 hx rfl rfl rfl (pc0 := 187) (pc' := 192) (same := false) rfl (hb hby at_187) rfl (decide_eq_false fun q => (Ne.symm ne_b19_b23) (Value.ref.inj q)) (by decide) (by decide) k) ?_
    refine own_by (B := T23.setTop (mkF m 194 #[.val (.int i0), .val (.int i1), .val (.int i2), .val (.int i3), .val (.int i4), .val (.int i5), .val (.int (Int32.ofNat cap)), .val (.int (2 : Int32)), .val (.int (i5 &&& (1073741823 : Int32))), .val (.ref b15), .val (.ref b19), .val (.ref b23)] [(.ref b23)])) (fun t k => XS.aload X23.here hx rfl (hb hby at_192) rfl rfl k) ?_
    obtain ⟨cl24, Ar24, Sz24, Ng24, -⟩ := id V_b23
    refine own_by (B := T23.setTop (mkF m 195 #[.val (.int i0), .val (.int i1), .val (.int i2), .val (.int i3), .val (.int i4), .val (.int i5), .val (.int (Int32.ofNat cap)), .val (.int (2 : Int32)), .val (.int (i5 &&& (1073741823 : Int32))), .val (.ref b15), .val (.ref b19), .val (.ref b23)] [(.int (2 : Int32))])) (fun t k => X23.arraylength hx Ar24.1 (State.isArrayOf_alike hZ.alike Ar24.2.1) (g := (mkF m 194 #[.val (.int i0), .val (.int i1), .val (.int i2), .val (.int i3), .val (.int i4), .val (.int i5), .val (.int (Int32.ofNat cap)), .val (.int (2 : Int32)), .val (.int (i5 &&& (1073741823 : Int32))), .val (.ref b15), .val (.ref b19), .val (.ref b23)] [(.ref b23)])) rfl rfl (hb hby at_194) _ (by rw [len_of Sz24 Ng24]; exact k)) ?_
    refine own_by (B := T23.setTop (mkF m 197 #[.val (.int i0), .val (.int i1), .val (.int i2), .val (.int i3), .val (.int i4), .val (.int i5), .val (.int (Int32.ofNat cap)), .val (.int (2 : Int32)), .val (.int (i5 &&& (1073741823 : Int32))), .val (.ref b15), .val (.ref b19), .val (.ref b23)] [(.int (2 : Int32)), (.int (2 : Int32))])) (fun t k => XS.iload X23.here hx rfl (hb hby at_195) rfl k) ?_
    refine own_by (B := T23.setTop (mkF m 202 #[.val (.int i0), .val (.int i1), .val (.int i2), .val (.int i3), .val (.int i4), .val (.int i5), .val (.int (Int32.ofNat cap)), .val (.int (2 : Int32)), .val (.int (i5 &&& (1073741823 : Int32))), .val (.ref b15), .val (.ref b19), .val (.ref b23)] [])) (fun t k => XS.icmpYes X23.here hx rfl (pc0 := 197) (pc' := 202) rfl (hb hby at_197) rfl (teq (by decide)).1 (by decide) (by decide) k) ?_
    refine own_by (B := T23.setTop (mkF m 203 #[.val (.int i0), .val (.int i1), .val (.int i2), .val (.int i3), .val (.int i4), .val (.int i5), .val (.int (Int32.ofNat cap)), .val (.int (2 : Int32)), .val (.int (i5 &&& (1073741823 : Int32))), .val (.ref b15), .val (.ref b19), .val (.ref b23)] [(.int (1 : Int32))])) (fun t k => XS.iconst X23.here hx rfl (hb hby at_202) k) ?_
    exact own_end X23 (v := some (.int (1 : Int32))) (fun h => by rw [Bd.returns] at h; cases h) (BodyLoose.notSynchronized Bd) (Q := (Q_rm0 Z i0 i1 i2 i3 i4 i5 h0 n0)) (fun fs hr => retN X23 hx (t := .boolean) Bd.returns (by simp) (hb hby at_203) hr) (show (Q_rm0 Z i0 i1 i2 i3 i4 i5 h0 n0) _ T23.heap _ from (⟨rfl, Nf⟩)) (by decide) (by decide)
  · rw [hq]
    obtain ⟨T25, h25, X25, e25, E25, A25, D25, -, st25⟩ := newO X0 hx hZ hown (hw _ (List.mem_of_getElem? (i := 1) rfl)) (hw _ (List.mem_of_getElem? (i := 2) rfl)) (hw _ (List.mem_of_getElem? (i := 3) rfl)) e0 (g := (mkF m 22 #[.val (.int i0), .val (.int i1), .val (.int i2), .val (.int i3), .val (.int i4), .val (.int i5), .val (.int (Int32.ofNat cap)), .val (.int (3 : Int32)), .val (.int (i5 &&& (1073741823 : Int32))), .unset, .unset, .unset] [])) rfl (hb hby at_22) (by decide) (by decide)
    obtain ⟨b25, gq25⟩ : ∃ z, z = h0.size := ⟨_, rfl⟩
    rw [← gq25] at A25 D25 st25
    have g_b25 : n0 ≤ b25 := Nat.le_trans Zs (Nat.le_of_eq gq25.symm)
    have Zs := Nat.le_trans Zs E25.1
    have E_b25 := A25
    have F_entries_b25 : Fld Z h25 b25 "com/example/surrogate/surrogate/index/Entries" "entries" "[I" .null := D25 (Or.inl (hw _ (List.mem_of_getElem? (i := 12) rfl))) (ty := (.array .int)) (by decide)
    have F_size_b25 : Fld Z h25 b25 "com/example/surrogate/surrogate/index/Entries" "size" "I" (.int (0 : Int32)) := D25 (Or.inl (hw _ (List.mem_of_getElem? (i := 19) rfl))) (ty := .int) (by decide)
    refine own_by (B := T25.setTop (mkF m 25 #[.val (.int i0), .val (.int i1), .val (.int i2), .val (.int i3), .val (.int i4), .val (.int i5), .val (.int (Int32.ofNat cap)), .val (.int (3 : Int32)), .val (.int (i5 &&& (1073741823 : Int32))), .unset, .unset, .unset] [(.ref b25)])) st25 ?_
    refine own_by (B := T25.setTop (mkF m 26 #[.val (.int i0), .val (.int i1), .val (.int i2), .val (.int i3), .val (.int i4), .val (.int i5), .val (.int (Int32.ofNat cap)), .val (.int (3 : Int32)), .val (.int (i5 &&& (1073741823 : Int32))), .unset, .unset, .unset] [(.ref b25), (.ref b25)])) (fun t k => XS.dup X25.here hx rfl (hb hby at_25) rfl rfl k) ?_
    refine own_by (B := T25.setTop (mkF m 28 #[.val (.int i0), .val (.int i1), .val (.int i2), .val (.int i3), .val (.int i4), .val (.int i5), .val (.int (Int32.ofNat cap)), .val (.int (3 : Int32)), .val (.int (i5 &&& (1073741823 : Int32))), .unset, .unset, .unset] [(.int (Int32.ofNat cap)), (.ref b25), (.ref b25)])) (fun t k => XS.iload X25.here hx rfl (hb hby at_26) rfl k) ?_
    obtain ⟨_, _, ⟨T26, L26, k26, n26⟩, -, X26, ⟨Lc26, hQ26, l26, y26, z26⟩, st26⟩ := X25.specialBack hx (y := (⟨"com/example/surrogate/surrogate/index/Entries", "<init>", "(I)V"⟩ : MethodName)) rfl hown (mvT hZ (hw _ (List.mem_of_getElem? (i := 4) rfl))) (mvT hZ (hw _ (List.mem_of_getElem? (i := 5) rfl))) (mvT hZ (hw _ (List.mem_of_getElem? (i := 6) rfl))) (by decide) (backOf (W := 1) (rmI l Z a0 hw [] b25 cap h25 n0 Zs E_b25 F_size_b25 F_entries_b25 g_b25 hcap) hZ (hw _ (List.mem_of_getElem? (i := 6) rfl)) (hw _ (List.mem_of_getElem? (i := 3) rfl)) (by decide) (by decide)) (g := (mkF m 28 #[.val (.int i0), .val (.int i1), .val (.int i2), .val (.int i3), .val (.int i4), .val (.int i5), .val (.int (Int32.ofNat cap)), .val (.int (3 : Int32)), .val (.int (i5 &&& (1073741823 : Int32))), .unset, .unset, .unset] [(.int (Int32.ofNat cap)), (.ref b25), (.ref b25)])) rfl (by rw [hml]; rfl) (Steps.refl _) (a := b25) (argsL := [(.int (Int32.ofNat cap))]) (rest := [(.ref b25)]) (lenOf own_pd2 rfl) rfl (by show 2 * 0 + _ ≤ _; exact Nat.le_of_eq rfl) (hb hby at_28) (fun _ _ => ⟨rfl, e25, (by decide : 1 + 1 ≤ _), (by decide : 2 + 6 ≤ _)⟩)
    dsimp only [Pt.U, Pt.locs, Pt.cells, Pt.slots] at X26 l26 y26 z26 st26 hQ26
    subst l26 y26 z26
    obtain ⟨rfl, Nq26, Kc26, Fs26, b26, f26, g_b26, ne_b25_b26, Fe26, Vc26, hz26⟩ := hQ26
    have Nf := Fr.app Nf Nq26
    have E_b25 := E_b25.keep Kc26
    have Zs := Nat.le_trans Zs Kc26.1
    have F_size_b25 := Fs26
    have F_entries_b25 := Fe26
    have V_b26 := Vc26
    have hint26 : ∀ i, i < 2 * cap → ∃ x, f26 i = .int x := fun i _ => ⟨_, hz26 i⟩
    refine own_by (B := T26.setTop (mkF m 31 #[.val (.int i0), .val (.int i1), .val (.int i2), .val (.int i3), .val (.int i4), .val (.int i5), .val (.int (Int32.ofNat cap)), .val (.int (3 : Int32)), .val (.int (i5 &&& (1073741823 : Int32))), .unset, .unset, .unset] [(.ref b25)])) (fun t k => st26.trans k) ?_
    refine own_by (B := T26.setTop (mkF m 33 #[.val (.int i0), .val (.int i1), .val (.int i2), .val (.int i3), .val (.int i4), .val (.int i5), .val (.int (Int32.ofNat cap)), .val (.int (3 : Int32)), .val (.int (i5 &&& (1073741823 : Int32))), .val (.ref b25), .unset, .unset] [])) (fun t k => XS.astore X26.here hx rfl (hb hby at_31) rfl rfl (l' := #[.val (.int i0), .val (.int i1), .val (.int i2), .val (.int i3), .val (.int i4), .val (.int i5), .val (.int (Int32.ofNat cap)), .val (.int (3 : Int32)), .val (.int (i5 &&& (1073741823 : Int32))), .val (.ref b25), .unset, .unset]) rfl k) ?_
    refine own_by (B := T26.setTop (mkF m 35 #[.val (.int i0), .val (.int i1), .val (.int i2), .val (.int i3), .val (.int i4), .val (.int i5), .val (.int (Int32.ofNat cap)), .val (.int (3 : Int32)), .val (.int (i5 &&& (1073741823 : Int32))), .val (.ref b25), .unset, .unset] [(.int (3 : Int32))])) (fun t k => XS.iload X26.here hx rfl (hb hby at_33) rfl k) ?_
    refine own_by (B := T26.setTop (mkF m 38 #[.val (.int i0), .val (.int i1), .val (.int i2), .val (.int i3), .val (.int i4), .val (.int i5), .val (.int (Int32.ofNat cap)), .val (.int (3 : Int32)), .val (.int (i5 &&& (1073741823 : Int32))), .val (.ref b25), .unset, .unset] [])) (fun t k => XS.ifNo X26.here hx rfl (hb hby at_35) rfl ((if0 _ _).trans (tlt (by decide)).2.2.2) k) ?_
    refine own_by (B := T26.setTop (mkF m 40 #[.val (.int i0), .val (.int i1), .val (.int i2), .val (.int i3), .val (.int i4), .val (.int i5), .val (.int (Int32.ofNat cap)), .val (.int (3 : Int32)), .val (.int (i5 &&& (1073741823 : Int32))), .val (.ref b25), .unset, .unset] [(.ref b25)])) (fun t k => XS.aload X26.here hx rfl (hb hby at_38) rfl rfl k) ?_
    refine own_by (B := T26.setTop (mkF m 42 #[.val (.int i0), .val (.int i1), .val (.int i2), .val (.int i3), .val (.int i4), .val (.int i5), .val (.int (Int32.ofNat cap)), .val (.int (3 : Int32)), .val (.int (i5 &&& (1073741823 : Int32))), .val (.ref b25), .unset, .unset] [(.int (i5 &&& (1073741823 : Int32))), (.ref b25)])) (fun t k => XS.iload X26.here hx rfl (hb hby at_40) rfl k) ?_
    refine own_by (B := T26.setTop (mkF m 43 #[.val (.int i0), .val (.int i1), .val (.int i2), .val (.int i3), .val (.int i4), .val (.int i5), .val (.int (Int32.ofNat cap)), .val (.int (3 : Int32)), .val (.int (i5 &&& (1073741823 : Int32))), .val (.ref b25), .unset, .unset] [(.int i1), (.int (i5 &&& (1073741823 : Int32))), (.ref b25)])) (fun t k => XS.iloadN X26.here hx rfl (hb hby at_42) rfl k) ?_
    obtain ⟨cq27, kq27, q27a, q27b, q27c⟩ := isOf hZ rfl E_b25
    obtain ⟨_, _, ⟨T27, L27, k27, n27⟩, -, X27, ⟨Lc27, hQ27, l27, y27, z27⟩, st27⟩ := X26.virtualBack hx (y := (⟨"com/example/surrogate/surrogate/index/Entries", "add", "(II)V"⟩ : MethodName)) (z := (⟨"com/example/surrogate/surrogate/index/Entries", "add", "(II)V"⟩ : MethodName)) hown (mvT hZ (hw _ (List.mem_of_getElem? (i := 20) rfl))) (mvT hZ (hw _ (List.mem_of_getElem? (i := 21) rfl))) (notFace_of_selects (args := #[]) (mvT hZ (hw _ (List.mem_of_getElem? (i := 23) rfl)))) (mvT hZ (hw _ (List.mem_of_getElem? (i := 23) rfl))) (mvT hZ (hw _ (List.mem_of_getElem? (i := 22) rfl))) (by decide) (backOf (W := 0) (rmA l Z a0 hw [] b25 (i5 &&& (1073741823 : Int32)) i1 b26 0 (2 * cap) f26 T26.heap n0 Zs E_b25 F_size_b25 F_entries_b25 V_b26 hint26 g_b25 g_b26 ne_b25_b26 (by omega) (by omega) (by omega) (by omega)) hZ (hw _ (List.mem_of_getElem? (i := 24) rfl)) (hw _ (List.mem_of_getElem? (i := 3) rfl)) (by decide) (by decide)) q27a q27c (g := (mkF m 43 #[.val (.int i0), .val (.int i1), .val (.int i2), .val (.int i3), .val (.int i4), .val (.int i5), .val (.int (Int32.ofNat cap)), .val (.int (3 : Int32)), .val (.int (i5 &&& (1073741823 : Int32))), .val (.ref b25), .unset, .unset] [(.int i1), (.int (i5 &&& (1073741823 : Int32))), (.ref b25)])) rfl (by rw [hml]; rfl) (Steps.refl _) (argsL := [(.int (i5 &&& (1073741823 : Int32))), (.int i1)]) (rest := []) (lenOf own_pd4 rfl) rfl (by show 2 * 0 + _ ≤ _; exact Nat.le_of_eq rfl) (hb hby at_43) (fun _ _ => ⟨rfl, rfl, (by decide : 2 + 1 ≤ _), (by decide : 8 + 12 ≤ _)⟩)
    dsimp only [Pt.U, Pt.locs, Pt.cells, Pt.slots] at X27 l27 y27 z27 st27 hQ27
    subst l27 y27 z27
    obtain ⟨rfl, Nq27, Kc27, Fs27, b27, mz27, f27, g_b27, ne_b25_b27, Fe27, Vc27, hma27, hmb27, hmc27, hne27, hnf27, hol27, hin27⟩ := hQ27
    have Nf := Fr.app Nf Nq27
    have E_b25 := E_b25.keep Kc27
    have Zs := Nat.le_trans Zs Kc27.1
    have F_size_b25 := Fs27
    have F_entries_b25 := Fe27
    have V_b27 := Vc27
    have hA27_0 : f27 0 = .int (i5 &&& (1073741823 : Int32)) := hne27
    have hB27_0 : f27 1 = .int i1 := hnf27
    refine own_by (B := T27.setTop (mkF m 46 #[.val (.int i0), .val (.int i1), .val (.int i2), .val (.int i3), .val (.int i4), .val (.int i5), .val (.int (Int32.ofNat cap)), .val (.int (3 : Int32)), .val (.int (i5 &&& (1073741823 : Int32))), .val (.ref b25), .unset, .unset] [])) (fun t k => st27.trans k) ?_
    refine own_by (B := T27.setTop (mkF m 48 #[.val (.int i0), .val (.int i1), .val (.int i2), .val (.int i3), .val (.int i4), .val (.int i5), .val (.int (Int32.ofNat cap)), .val (.int (3 : Int32)), .val (.int (i5 &&& (1073741823 : Int32))), .val (.ref b25), .unset, .unset] [(.int (3 : Int32))])) (fun t k => XS.iload X27.here hx rfl (hb hby at_46) rfl k) ?_
    refine own_by (B := T27.setTop (mkF m 49 #[.val (.int i0), .val (.int i1), .val (.int i2), .val (.int i3), .val (.int i4), .val (.int i5), .val (.int (Int32.ofNat cap)), .val (.int (3 : Int32)), .val (.int (i5 &&& (1073741823 : Int32))), .val (.ref b25), .unset, .unset] [(.int (1 : Int32)), (.int (3 : Int32))])) (fun t k => XS.iconst X27.here hx rfl (hb hby at_48) k) ?_
    refine own_by (B := T27.setTop (mkF m 52 #[.val (.int i0), .val (.int i1), .val (.int i2), .val (.int i3), .val (.int i4), .val (.int i5), .val (.int (Int32.ofNat cap)), .val (.int (3 : Int32)), .val (.int (i5 &&& (1073741823 : Int32))), .val (.ref b25), .unset, .unset] [])) (fun t k => XS.icmpNo X27.here hx rfl (hb hby at_49) rfl (tlt (by decide)).2.2.2 k) ?_
    refine own_by (B := T27.setTop (mkF m 54 #[.val (.int i0), .val (.int i1), .val (.int i2), .val (.int i3), .val (.int i4), .val (.int i5), .val (.int (Int32.ofNat cap)), .val (.int (3 : Int32)), .val (.int (i5 &&& (1073741823 : Int32))), .val (.ref b25), .unset, .unset] [(.ref b25)])) (fun t k => XS.aload X27.here hx rfl (hb hby at_52) rfl rfl k) ?_
    refine own_by (B := T27.setTop (mkF m 56 #[.val (.int i0), .val (.int i1), .val (.int i2), .val (.int i3), .val (.int i4), .val (.int i5), .val (.int (Int32.ofNat cap)), .val (.int (3 : Int32)), .val (.int (i5 &&& (1073741823 : Int32))), .val (.ref b25), .unset, .unset] [(.int (i5 &&& (1073741823 : Int32))), (.ref b25)])) (fun t k => XS.iload X27.here hx rfl (hb hby at_54) rfl k) ?_
    refine own_by (B := T27.setTop (mkF m 57 #[.val (.int i0), .val (.int i1), .val (.int i2), .val (.int i3), .val (.int i4), .val (.int i5), .val (.int (Int32.ofNat cap)), .val (.int (3 : Int32)), .val (.int (i5 &&& (1073741823 : Int32))), .val (.ref b25), .unset, .unset] [(.int (1 : Int32)), (.int (i5 &&& (1073741823 : Int32))), (.ref b25)])) (fun t k => XS.iconst X27.here hx rfl (hb hby at_56) k) ?_
    refine own_by (B := T27.setTop (mkF m 58 #[.val (.int i0), .val (.int i1), .val (.int i2), .val (.int i3), .val (.int i4), .val (.int i5), .val (.int (Int32.ofNat cap)), .val (.int (3 : Int32)), .val (.int (i5 &&& (1073741823 : Int32))), .val (.ref b25), .unset, .unset] [(.int ((i5 &&& (1073741823 : Int32)) + (1 : Int32))), (.ref b25)])) (fun t k => XS.iadd X27.here hx rfl (hb hby at_57) rfl k) ?_
    refine own_by (B := T27.setTop (mkF m 59 #[.val (.int i0), .val (.int i1), .val (.int i2), .val (.int i3), .val (.int i4), .val (.int i5), .val (.int (Int32.ofNat cap)), .val (.int (3 : Int32)), .val (.int (i5 &&& (1073741823 : Int32))), .val (.ref b25), .unset, .unset] [(.int i2), (.int ((i5 &&& (1073741823 : Int32)) + (1 : Int32))), (.ref b25)])) (fun t k => XS.iloadN X27.here hx rfl (hb hby at_58) rfl k) ?_
    obtain ⟨cq28, kq28, q28a, q28b, q28c⟩ := isOf hZ rfl E_b25
    obtain ⟨_, _, ⟨T28, L28, k28, n28⟩, -, X28, ⟨Lc28, hQ28, l28, y28, z28⟩, st28⟩ := X27.virtualBack hx (y := (⟨"com/example/surrogate/surrogate/index/Entries", "add", "(II)V"⟩ : MethodName)) (z := (⟨"com/example/surrogate/surrogate/index/Entries", "add", "(II)V"⟩ : MethodName)) hown (mvT hZ (hw _ (List.mem_of_getElem? (i := 20) rfl))) (mvT hZ (hw _ (List.mem_of_getElem? (i := 21) rfl))) (notFace_of_selects (args := #[]) (mvT hZ (hw _ (List.mem_of_getElem? (i := 23) rfl)))) (mvT hZ (hw _ (List.mem_of_getElem? (i := 23) rfl))) (mvT hZ (hw _ (List.mem_of_getElem? (i := 22) rfl))) (by decide) (backOf (W := 0) (rmA l Z a0 hw [] b25 ((i5 &&& (1073741823 : Int32)) + (1 : Int32)) i2 b27 1 mz27 f27 T27.heap n0 Zs E_b25 F_size_b25 F_entries_b25 V_b27 hin27 g_b25 g_b27 ne_b25_b27 (by omega) (by omega) (by omega) (by omega)) hZ (hw _ (List.mem_of_getElem? (i := 24) rfl)) (hw _ (List.mem_of_getElem? (i := 3) rfl)) (by decide) (by decide)) q28a q28c (g := (mkF m 59 #[.val (.int i0), .val (.int i1), .val (.int i2), .val (.int i3), .val (.int i4), .val (.int i5), .val (.int (Int32.ofNat cap)), .val (.int (3 : Int32)), .val (.int (i5 &&& (1073741823 : Int32))), .val (.ref b25), .unset, .unset] [(.int i2), (.int ((i5 &&& (1073741823 : Int32)) + (1 : Int32))), (.ref b25)])) rfl (by rw [hml]; rfl) (Steps.refl _) (argsL := [(.int ((i5 &&& (1073741823 : Int32)) + (1 : Int32))), (.int i2)]) (rest := []) (lenOf own_pd4 rfl) rfl (by show 2 * 0 + _ ≤ _; exact Nat.le_of_eq rfl) (hb hby at_59) (fun _ _ => ⟨rfl, rfl, (by decide : 3 + 1 ≤ _), (by decide : 20 + 12 ≤ _)⟩)
    dsimp only [Pt.U, Pt.locs, Pt.cells, Pt.slots] at X28 l28 y28 z28 st28 hQ28
    subst l28 y28 z28
    obtain ⟨rfl, Nq28, Kc28, Fs28, b28, mz28, f28, g_b28, ne_b25_b28, Fe28, Vc28, hma28, hmb28, hmc28, hne28, hnf28, hol28, hin28⟩ := hQ28
    have Nf := Fr.app Nf Nq28
    have E_b25 := E_b25.keep Kc28
    have Zs := Nat.le_trans Zs Kc28.1
    have F_size_b25 := Fs28
    have F_entries_b25 := Fe28
    have V_b28 := Vc28
    have hA28_0 : f28 0 = .int (i5 &&& (1073741823 : Int32)) := (hol28 0 (by omega)).trans hA27_0
    have hB28_0 : f28 1 = .int i1 := (hol28 1 (by omega)).trans hB27_0
    have hA28_1 : f28 2 = .int ((i5 &&& (1073741823 : Int32)) + (1 : Int32)) := hne28
    have hB28_1 : f28 3 = .int i2 := hnf28
    refine own_by (B := T28.setTop (mkF m 62 #[.val (.int i0), .val (.int i1), .val (.int i2), .val (.int i3), .val (.int i4), .val (.int i5), .val (.int (Int32.ofNat cap)), .val (.int (3 : Int32)), .val (.int (i5 &&& (1073741823 : Int32))), .val (.ref b25), .unset, .unset] [])) (fun t k => st28.trans k) ?_
    refine own_by (B := T28.setTop (mkF m 64 #[.val (.int i0), .val (.int i1), .val (.int i2), .val (.int i3), .val (.int i4), .val (.int i5), .val (.int (Int32.ofNat cap)), .val (.int (3 : Int32)), .val (.int (i5 &&& (1073741823 : Int32))), .val (.ref b25), .unset, .unset] [(.int (3 : Int32))])) (fun t k => XS.iload X28.here hx rfl (hb hby at_62) rfl k) ?_
    refine own_by (B := T28.setTop (mkF m 65 #[.val (.int i0), .val (.int i1), .val (.int i2), .val (.int i3), .val (.int i4), .val (.int i5), .val (.int (Int32.ofNat cap)), .val (.int (3 : Int32)), .val (.int (i5 &&& (1073741823 : Int32))), .val (.ref b25), .unset, .unset] [(.int (2 : Int32)), (.int (3 : Int32))])) (fun t k => XS.iconst X28.here hx rfl (hb hby at_64) k) ?_
    refine own_by (B := T28.setTop (mkF m 68 #[.val (.int i0), .val (.int i1), .val (.int i2), .val (.int i3), .val (.int i4), .val (.int i5), .val (.int (Int32.ofNat cap)), .val (.int (3 : Int32)), .val (.int (i5 &&& (1073741823 : Int32))), .val (.ref b25), .unset, .unset] [])) (fun t k => XS.icmpNo X28.here hx rfl (hb hby at_65) rfl (tlt (by decide)).2.2.2 k) ?_
    refine own_by (B := T28.setTop (mkF m 70 #[.val (.int i0), .val (.int i1), .val (.int i2), .val (.int i3), .val (.int i4), .val (.int i5), .val (.int (Int32.ofNat cap)), .val (.int (3 : Int32)), .val (.int (i5 &&& (1073741823 : Int32))), .val (.ref b25), .unset, .unset] [(.ref b25)])) (fun t k => XS.aload X28.here hx rfl (hb hby at_68) rfl rfl k) ?_
    refine own_by (B := T28.setTop (mkF m 72 #[.val (.int i0), .val (.int i1), .val (.int i2), .val (.int i3), .val (.int i4), .val (.int i5), .val (.int (Int32.ofNat cap)), .val (.int (3 : Int32)), .val (.int (i5 &&& (1073741823 : Int32))), .val (.ref b25), .unset, .unset] [(.int (i5 &&& (1073741823 : Int32))), (.ref b25)])) (fun t k => XS.iload X28.here hx rfl (hb hby at_70) rfl k) ?_
    refine own_by (B := T28.setTop (mkF m 73 #[.val (.int i0), .val (.int i1), .val (.int i2), .val (.int i3), .val (.int i4), .val (.int i5), .val (.int (Int32.ofNat cap)), .val (.int (3 : Int32)), .val (.int (i5 &&& (1073741823 : Int32))), .val (.ref b25), .unset, .unset] [(.int (2 : Int32)), (.int (i5 &&& (1073741823 : Int32))), (.ref b25)])) (fun t k => XS.iconst X28.here hx rfl (hb hby at_72) k) ?_
    refine own_by (B := T28.setTop (mkF m 74 #[.val (.int i0), .val (.int i1), .val (.int i2), .val (.int i3), .val (.int i4), .val (.int i5), .val (.int (Int32.ofNat cap)), .val (.int (3 : Int32)), .val (.int (i5 &&& (1073741823 : Int32))), .val (.ref b25), .unset, .unset] [(.int ((i5 &&& (1073741823 : Int32)) + (2 : Int32))), (.ref b25)])) (fun t k => XS.iadd X28.here hx rfl (hb hby at_73) rfl k) ?_
    refine own_by (B := T28.setTop (mkF m 75 #[.val (.int i0), .val (.int i1), .val (.int i2), .val (.int i3), .val (.int i4), .val (.int i5), .val (.int (Int32.ofNat cap)), .val (.int (3 : Int32)), .val (.int (i5 &&& (1073741823 : Int32))), .val (.ref b25), .unset, .unset] [(.int i3), (.int ((i5 &&& (1073741823 : Int32)) + (2 : Int32))), (.ref b25)])) (fun t k => XS.iloadN X28.here hx rfl (hb hby at_74) rfl k) ?_
    obtain ⟨cq29, kq29, q29a, q29b, q29c⟩ := isOf hZ rfl E_b25
    obtain ⟨_, _, ⟨T29, L29, k29, n29⟩, -, X29, ⟨Lc29, hQ29, l29, y29, z29⟩, st29⟩ := X28.virtualBack hx (y := (⟨"com/example/surrogate/surrogate/index/Entries", "add", "(II)V"⟩ : MethodName)) (z := (⟨"com/example/surrogate/surrogate/index/Entries", "add", "(II)V"⟩ : MethodName)) hown (mvT hZ (hw _ (List.mem_of_getElem? (i := 20) rfl))) (mvT hZ (hw _ (List.mem_of_getElem? (i := 21) rfl))) (notFace_of_selects (args := #[]) (mvT hZ (hw _ (List.mem_of_getElem? (i := 23) rfl)))) (mvT hZ (hw _ (List.mem_of_getElem? (i := 23) rfl))) (mvT hZ (hw _ (List.mem_of_getElem? (i := 22) rfl))) (by decide) (backOf (W := 0) (rmA l Z a0 hw [] b25 ((i5 &&& (1073741823 : Int32)) + (2 : Int32)) i3 b28 2 mz28 f28 T28.heap n0 Zs E_b25 F_size_b25 F_entries_b25 V_b28 hin28 g_b25 g_b28 ne_b25_b28 (by omega) (by omega) (by omega) (by omega)) hZ (hw _ (List.mem_of_getElem? (i := 24) rfl)) (hw _ (List.mem_of_getElem? (i := 3) rfl)) (by decide) (by decide)) q29a q29c (g := (mkF m 75 #[.val (.int i0), .val (.int i1), .val (.int i2), .val (.int i3), .val (.int i4), .val (.int i5), .val (.int (Int32.ofNat cap)), .val (.int (3 : Int32)), .val (.int (i5 &&& (1073741823 : Int32))), .val (.ref b25), .unset, .unset] [(.int i3), (.int ((i5 &&& (1073741823 : Int32)) + (2 : Int32))), (.ref b25)])) rfl (by rw [hml]; rfl) (Steps.refl _) (argsL := [(.int ((i5 &&& (1073741823 : Int32)) + (2 : Int32))), (.int i3)]) (rest := []) (lenOf own_pd4 rfl) rfl (by show 2 * 0 + _ ≤ _; exact Nat.le_of_eq rfl) (hb hby at_75) (fun _ _ => ⟨rfl, rfl, (by decide : 4 + 1 ≤ _), (by decide : 32 + 12 ≤ _)⟩)
    dsimp only [Pt.U, Pt.locs, Pt.cells, Pt.slots] at X29 l29 y29 z29 st29 hQ29
    subst l29 y29 z29
    obtain ⟨rfl, Nq29, Kc29, Fs29, b29, mz29, f29, g_b29, ne_b25_b29, Fe29, Vc29, hma29, hmb29, hmc29, hne29, hnf29, hol29, hin29⟩ := hQ29
    have Nf := Fr.app Nf Nq29
    have E_b25 := E_b25.keep Kc29
    have Zs := Nat.le_trans Zs Kc29.1
    have F_size_b25 := Fs29
    have F_entries_b25 := Fe29
    have V_b29 := Vc29
    have hA29_0 : f29 0 = .int (i5 &&& (1073741823 : Int32)) := (hol29 0 (by omega)).trans hA28_0
    have hB29_0 : f29 1 = .int i1 := (hol29 1 (by omega)).trans hB28_0
    have hA29_1 : f29 2 = .int ((i5 &&& (1073741823 : Int32)) + (1 : Int32)) := (hol29 2 (by omega)).trans hA28_1
    have hB29_1 : f29 3 = .int i2 := (hol29 3 (by omega)).trans hB28_1
    have hA29_2 : f29 4 = .int ((i5 &&& (1073741823 : Int32)) + (2 : Int32)) := hne29
    have hB29_2 : f29 5 = .int i3 := hnf29
    refine own_by (B := T29.setTop (mkF m 78 #[.val (.int i0), .val (.int i1), .val (.int i2), .val (.int i3), .val (.int i4), .val (.int i5), .val (.int (Int32.ofNat cap)), .val (.int (3 : Int32)), .val (.int (i5 &&& (1073741823 : Int32))), .val (.ref b25), .unset, .unset] [])) (fun t k => st29.trans k) ?_
    refine own_by (B := T29.setTop (mkF m 80 #[.val (.int i0), .val (.int i1), .val (.int i2), .val (.int i3), .val (.int i4), .val (.int i5), .val (.int (Int32.ofNat cap)), .val (.int (3 : Int32)), .val (.int (i5 &&& (1073741823 : Int32))), .val (.ref b25), .unset, .unset] [(.int (3 : Int32))])) (fun t k => XS.iload X29.here hx rfl (hb hby at_78) rfl k) ?_
    refine own_by (B := T29.setTop (mkF m 81 #[.val (.int i0), .val (.int i1), .val (.int i2), .val (.int i3), .val (.int i4), .val (.int i5), .val (.int (Int32.ofNat cap)), .val (.int (3 : Int32)), .val (.int (i5 &&& (1073741823 : Int32))), .val (.ref b25), .unset, .unset] [(.int (3 : Int32)), (.int (3 : Int32))])) (fun t k => XS.iconst X29.here hx rfl (hb hby at_80) k) ?_
    refine own_by (B := T29.setTop (mkF m 95 #[.val (.int i0), .val (.int i1), .val (.int i2), .val (.int i3), .val (.int i4), .val (.int i5), .val (.int (Int32.ofNat cap)), .val (.int (3 : Int32)), .val (.int (i5 &&& (1073741823 : Int32))), .val (.ref b25), .unset, .unset] [])) (fun t k => XS.icmpYes X29.here hx rfl (pc0 := 81) (pc' := 95) rfl (hb hby at_81) rfl (flt (by decide)).2.2.2 (by decide) (by decide) k) ?_
    refine own_by (B := T29.setTop (mkF m 97 #[.val (.int i0), .val (.int i1), .val (.int i2), .val (.int i3), .val (.int i4), .val (.int i5), .val (.int (Int32.ofNat cap)), .val (.int (3 : Int32)), .val (.int (i5 &&& (1073741823 : Int32))), .val (.ref b25), .unset, .unset] [(.ref b25)])) (fun t k => XS.aload X29.here hx rfl (hb hby at_95) rfl rfl k) ?_
    obtain ⟨cq30, kq30, q30a, q30b, q30c⟩ := isOf hZ rfl E_b25
    obtain ⟨_, _, ⟨T30, L30, k30, n30⟩, -, X30, ⟨Lc30, hQ30, l30, y30, z30⟩, st30⟩ := X29.virtualBack hx (y := (⟨"com/example/surrogate/surrogate/index/Entries", "frequencies", "()[I"⟩ : MethodName)) (z := (⟨"com/example/surrogate/surrogate/index/Entries", "frequencies", "()[I"⟩ : MethodName)) hown (mvT hZ (hw _ (List.mem_of_getElem? (i := 13) rfl))) (mvT hZ (hw _ (List.mem_of_getElem? (i := 14) rfl))) (notFace_of_selects (args := #[]) (mvT hZ (hw _ (List.mem_of_getElem? (i := 16) rfl)))) (mvT hZ (hw _ (List.mem_of_getElem? (i := 16) rfl))) (mvT hZ (hw _ (List.mem_of_getElem? (i := 15) rfl))) (by decide) (backOf (W := 0) (rmF3 l Z a0 hw [] b25 b29 mz29 f29 i1 i2 i3 T29.heap n0 Zs F_size_b25 F_entries_b25 V_b29 ne_b25_b29 (by omega) (by omega) hB29_0 hB29_1 hB29_2) hZ (hw _ (List.mem_of_getElem? (i := 17) rfl)) (hw _ (List.mem_of_getElem? (i := 3) rfl)) (by decide) (by decide)) q30a q30c (g := (mkF m 97 #[.val (.int i0), .val (.int i1), .val (.int i2), .val (.int i3), .val (.int i4), .val (.int i5), .val (.int (Int32.ofNat cap)), .val (.int (3 : Int32)), .val (.int (i5 &&& (1073741823 : Int32))), .val (.ref b25), .unset, .unset] [(.ref b25)])) rfl (by rw [hml]; rfl) (Steps.refl _) (argsL := []) (rest := []) (lenOf own_pd3 rfl) rfl (by show 2 * 0 + _ ≤ _; exact Nat.le_of_eq rfl) (hb hby at_97) (fun _ _ => ⟨rfl, rfl, (by decide : 5 + 1 ≤ _), (by decide : 44 + 3 ≤ _)⟩)
    dsimp only [Pt.U, Pt.locs, Pt.cells, Pt.slots] at X30 l30 y30 z30 st30 hQ30
    subst l30 y30 z30
    obtain ⟨rfl, Nq30, Kc30, g30, Vc30, hg30_0, hg30_1, hg30_2⟩ := hQ30
    have Nf := Fr.app Nf Nq30
    obtain ⟨b30, gq30⟩ : ∃ z, z = T29.heap.size := ⟨_, rfl⟩
    rw [← gq30] at Vc30 st30
    have ne_b25_b30 : b25 ≠ b30 := Nat.ne_of_lt (Nat.lt_of_lt_of_le E_b25.lt (Nat.le_of_eq gq30.symm))
    have ne_b29_b30 : b29 ≠ b30 := Nat.ne_of_lt (Nat.lt_of_lt_of_le V_b29.lt (Nat.le_of_eq gq30.symm))
    have g_b30 : n0 ≤ b30 := Nat.le_trans Zs (Nat.le_of_eq gq30.symm)
    have E_b25 := E_b25.keep Kc30
    have F_size_b25 := F_size_b25.keep Kc30 nin0
    have F_entries_b25 := F_entries_b25.keep Kc30 nin0
    have V_b29 := V_b29.keep Kc30 nin0
    have Zs := Nat.le_trans Zs Kc30.1
    have V_b30 := Vc30
    refine own_by (B := T30.setTop (mkF m 100 #[.val (.int i0), .val (.int i1), .val (.int i2), .val (.int i3), .val (.int i4), .val (.int i5), .val (.int (Int32.ofNat cap)), .val (.int (3 : Int32)), .val (.int (i5 &&& (1073741823 : Int32))), .val (.ref b25), .unset, .unset] [(.ref b30)])) (fun t k => st30.trans k) ?_
    refine own_by (B := T30.setTop (mkF m 102 #[.val (.int i0), .val (.int i1), .val (.int i2), .val (.int i3), .val (.int i4), .val (.int i5), .val (.int (Int32.ofNat cap)), .val (.int (3 : Int32)), .val (.int (i5 &&& (1073741823 : Int32))), .val (.ref b25), .val (.ref b30), .unset] [])) (fun t k => XS.astore X30.here hx rfl (hb hby at_100) rfl rfl (l' := #[.val (.int i0), .val (.int i1), .val (.int i2), .val (.int i3), .val (.int i4), .val (.int i5), .val (.int (Int32.ofNat cap)), .val (.int (3 : Int32)), .val (.int (i5 &&& (1073741823 : Int32))), .val (.ref b25), .val (.ref b30), .unset]) rfl k) ?_
    refine own_by (B := T30.setTop (mkF m 104 #[.val (.int i0), .val (.int i1), .val (.int i2), .val (.int i3), .val (.int i4), .val (.int i5), .val (.int (Int32.ofNat cap)), .val (.int (3 : Int32)), .val (.int (i5 &&& (1073741823 : Int32))), .val (.ref b25), .val (.ref b30), .unset] [(.ref b30)])) (fun t k => XS.aload X30.here hx rfl (hb hby at_102) rfl rfl k) ?_
    obtain ⟨cl31, Ar31, Sz31, Ng31, -⟩ := id V_b30
    refine own_by (B := T30.setTop (mkF m 105 #[.val (.int i0), .val (.int i1), .val (.int i2), .val (.int i3), .val (.int i4), .val (.int i5), .val (.int (Int32.ofNat cap)), .val (.int (3 : Int32)), .val (.int (i5 &&& (1073741823 : Int32))), .val (.ref b25), .val (.ref b30), .unset] [(.int (3 : Int32))])) (fun t k => X30.arraylength hx Ar31.1 (State.isArrayOf_alike hZ.alike Ar31.2.1) (g := (mkF m 104 #[.val (.int i0), .val (.int i1), .val (.int i2), .val (.int i3), .val (.int i4), .val (.int i5), .val (.int (Int32.ofNat cap)), .val (.int (3 : Int32)), .val (.int (i5 &&& (1073741823 : Int32))), .val (.ref b25), .val (.ref b30), .unset] [(.ref b30)])) rfl rfl (hb hby at_104) _ (by rw [len_of Sz31 Ng31]; exact k)) ?_
    refine own_by (B := T30.setTop (mkF m 107 #[.val (.int i0), .val (.int i1), .val (.int i2), .val (.int i3), .val (.int i4), .val (.int i5), .val (.int (Int32.ofNat cap)), .val (.int (3 : Int32)), .val (.int (i5 &&& (1073741823 : Int32))), .val (.ref b25), .val (.ref b30), .unset] [(.int (3 : Int32)), (.int (3 : Int32))])) (fun t k => XS.iload X30.here hx rfl (hb hby at_105) rfl k) ?_
    refine own_by (B := T30.setTop (mkF m 112 #[.val (.int i0), .val (.int i1), .val (.int i2), .val (.int i3), .val (.int i4), .val (.int i5), .val (.int (Int32.ofNat cap)), .val (.int (3 : Int32)), .val (.int (i5 &&& (1073741823 : Int32))), .val (.ref b25), .val (.ref b30), .unset] [])) (fun t k => XS.icmpYes X30.here hx rfl (pc0 := 107) (pc' := 112) rfl (hb hby at_107) rfl (teq (by decide)).1 (by decide) (by decide) k) ?_
    refine own_by (B := T30.setTop (mkF m 114 #[.val (.int i0), .val (.int i1), .val (.int i2), .val (.int i3), .val (.int i4), .val (.int i5), .val (.int (Int32.ofNat cap)), .val (.int (3 : Int32)), .val (.int (i5 &&& (1073741823 : Int32))), .val (.ref b25), .val (.ref b30), .unset] [(.int (3 : Int32))])) (fun t k => XS.iload X30.here hx rfl (hb hby at_112) rfl k) ?_
    refine own_by (B := T30.setTop (mkF m 117 #[.val (.int i0), .val (.int i1), .val (.int i2), .val (.int i3), .val (.int i4), .val (.int i5), .val (.int (Int32.ofNat cap)), .val (.int (3 : Int32)), .val (.int (i5 &&& (1073741823 : Int32))), .val (.ref b25), .val (.ref b30), .unset] [])) (fun t k => XS.ifNo X30.here hx rfl (hb hby at_114) rfl ((if0 _ _).trans (tlt (by decide)).2.2.2) k) ?_
    refine own_by (B := T30.setTop (mkF m 119 #[.val (.int i0), .val (.int i1), .val (.int i2), .val (.int i3), .val (.int i4), .val (.int i5), .val (.int (Int32.ofNat cap)), .val (.int (3 : Int32)), .val (.int (i5 &&& (1073741823 : Int32))), .val (.ref b25), .val (.ref b30), .unset] [(.ref b30)])) (fun t k => XS.aload X30.here hx rfl (hb hby at_117) rfl rfl k) ?_
    refine own_by (B := T30.setTop (mkF m 120 #[.val (.int i0), .val (.int i1), .val (.int i2), .val (.int i3), .val (.int i4), .val (.int i5), .val (.int (Int32.ofNat cap)), .val (.int (3 : Int32)), .val (.int (i5 &&& (1073741823 : Int32))), .val (.ref b25), .val (.ref b30), .unset] [(.int (0 : Int32)), (.ref b30)])) (fun t k => XS.iconst X30.here hx rfl (hb hby at_119) k) ?_
    obtain ⟨cl32, Ar32, hin32, hat32⟩ := V_b30.at (j := (0 : Int32)) ⟨by decide, by decide⟩
    have hat32 := hat32.trans (congrArg some (show _ = (.int i1) from hg30_0))
    refine own_by (B := T30.setTop (mkF m 121 #[.val (.int i0), .val (.int i1), .val (.int i2), .val (.int i3), .val (.int i4), .val (.int i5), .val (.int (Int32.ofNat cap)), .val (.int (3 : Int32)), .val (.int (i5 &&& (1073741823 : Int32))), .val (.ref b25), .val (.ref b30), .unset] [(.int i1)])) (fun t k => X30.iaload hx (j := (0 : Int32)) (v := (.int i1)) Ar32.1 (State.isArrayOf_alike hZ.alike Ar32.2.1) Ar32.2.2 hin32 hat32 (g := (mkF m 120 #[.val (.int i0), .val (.int i1), .val (.int i2), .val (.int i3), .val (.int i4), .val (.int i5), .val (.int (Int32.ofNat cap)), .val (.int (3 : Int32)), .val (.int (i5 &&& (1073741823 : Int32))), .val (.ref b25), .val (.ref b30), .unset] [(.int (0 : Int32)), (.ref b30)])) rfl rfl (hb hby at_120) _ k) ?_
    refine own_by (B := T30.setTop (mkF m 122 #[.val (.int i0), .val (.int i1), .val (.int i2), .val (.int i3), .val (.int i4), .val (.int i5), .val (.int (Int32.ofNat cap)), .val (.int (3 : Int32)), .val (.int (i5 &&& (1073741823 : Int32))), .val (.ref b25), .val (.ref b30), .unset] [(.int i1), (.int i1)])) (fun t k => XS.iloadN X30.here hx rfl (hb hby at_121) rfl k) ?_
    refine own_by (B := T30.setTop (mkF m 127 #[.val (.int i0), .val (.int i1), .val (.int i2), .val (.int i3), .val (.int i4), .val (.int i5), .val (.int (Int32.ofNat cap)), .val (.int (3 : Int32)), .val (.int (i5 &&& (1073741823 : Int32))), .val (.ref b25), .val (.ref b30), .unset] [])) (fun t k => XS.icmpYes X30.here hx rfl (pc0 := 122) (pc' := 127) rfl (hb hby at_122) rfl (teq rfl).1 (by decide) (by decide) k) ?_
    refine own_by (B := T30.setTop (mkF m 129 #[.val (.int i0), .val (.int i1), .val (.int i2), .val (.int i3), .val (.int i4), .val (.int i5), .val (.int (Int32.ofNat cap)), .val (.int (3 : Int32)), .val (.int (i5 &&& (1073741823 : Int32))), .val (.ref b25), .val (.ref b30), .unset] [(.int (3 : Int32))])) (fun t k => XS.iload X30.here hx rfl (hb hby at_127) rfl k) ?_
    refine own_by (B := T30.setTop (mkF m 130 #[.val (.int i0), .val (.int i1), .val (.int i2), .val (.int i3), .val (.int i4), .val (.int i5), .val (.int (Int32.ofNat cap)), .val (.int (3 : Int32)), .val (.int (i5 &&& (1073741823 : Int32))), .val (.ref b25), .val (.ref b30), .unset] [(.int (1 : Int32)), (.int (3 : Int32))])) (fun t k => XS.iconst X30.here hx rfl (hb hby at_129) k) ?_
    refine own_by (B := T30.setTop (mkF m 133 #[.val (.int i0), .val (.int i1), .val (.int i2), .val (.int i3), .val (.int i4), .val (.int i5), .val (.int (Int32.ofNat cap)), .val (.int (3 : Int32)), .val (.int (i5 &&& (1073741823 : Int32))), .val (.ref b25), .val (.ref b30), .unset] [])) (fun t k => XS.icmpNo X30.here hx rfl (hb hby at_130) rfl (tlt (by decide)).2.2.2 k) ?_
    refine own_by (B := T30.setTop (mkF m 135 #[.val (.int i0), .val (.int i1), .val (.int i2), .val (.int i3), .val (.int i4), .val (.int i5), .val (.int (Int32.ofNat cap)), .val (.int (3 : Int32)), .val (.int (i5 &&& (1073741823 : Int32))), .val (.ref b25), .val (.ref b30), .unset] [(.ref b30)])) (fun t k => XS.aload X30.here hx rfl (hb hby at_133) rfl rfl k) ?_
    refine own_by (B := T30.setTop (mkF m 136 #[.val (.int i0), .val (.int i1), .val (.int i2), .val (.int i3), .val (.int i4), .val (.int i5), .val (.int (Int32.ofNat cap)), .val (.int (3 : Int32)), .val (.int (i5 &&& (1073741823 : Int32))), .val (.ref b25), .val (.ref b30), .unset] [(.int (1 : Int32)), (.ref b30)])) (fun t k => XS.iconst X30.here hx rfl (hb hby at_135) k) ?_
    obtain ⟨cl33, Ar33, hin33, hat33⟩ := V_b30.at (j := (1 : Int32)) ⟨by decide, by decide⟩
    have hat33 := hat33.trans (congrArg some (show _ = (.int i2) from hg30_1))
    refine own_by (B := T30.setTop (mkF m 137 #[.val (.int i0), .val (.int i1), .val (.int i2), .val (.int i3), .val (.int i4), .val (.int i5), .val (.int (Int32.ofNat cap)), .val (.int (3 : Int32)), .val (.int (i5 &&& (1073741823 : Int32))), .val (.ref b25), .val (.ref b30), .unset] [(.int i2)])) (fun t k => X30.iaload hx (j := (1 : Int32)) (v := (.int i2)) Ar33.1 (State.isArrayOf_alike hZ.alike Ar33.2.1) Ar33.2.2 hin33 hat33 (g := (mkF m 136 #[.val (.int i0), .val (.int i1), .val (.int i2), .val (.int i3), .val (.int i4), .val (.int i5), .val (.int (Int32.ofNat cap)), .val (.int (3 : Int32)), .val (.int (i5 &&& (1073741823 : Int32))), .val (.ref b25), .val (.ref b30), .unset] [(.int (1 : Int32)), (.ref b30)])) rfl rfl (hb hby at_136) _ k) ?_
    refine own_by (B := T30.setTop (mkF m 138 #[.val (.int i0), .val (.int i1), .val (.int i2), .val (.int i3), .val (.int i4), .val (.int i5), .val (.int (Int32.ofNat cap)), .val (.int (3 : Int32)), .val (.int (i5 &&& (1073741823 : Int32))), .val (.ref b25), .val (.ref b30), .unset] [(.int i2), (.int i2)])) (fun t k => XS.iloadN X30.here hx rfl (hb hby at_137) rfl k) ?_
    refine own_by (B := T30.setTop (mkF m 143 #[.val (.int i0), .val (.int i1), .val (.int i2), .val (.int i3), .val (.int i4), .val (.int i5), .val (.int (Int32.ofNat cap)), .val (.int (3 : Int32)), .val (.int (i5 &&& (1073741823 : Int32))), .val (.ref b25), .val (.ref b30), .unset] [])) (fun t k => XS.icmpYes X30.here hx rfl (pc0 := 138) (pc' := 143) rfl (hb hby at_138) rfl (teq rfl).1 (by decide) (by decide) k) ?_
    refine own_by (B := T30.setTop (mkF m 145 #[.val (.int i0), .val (.int i1), .val (.int i2), .val (.int i3), .val (.int i4), .val (.int i5), .val (.int (Int32.ofNat cap)), .val (.int (3 : Int32)), .val (.int (i5 &&& (1073741823 : Int32))), .val (.ref b25), .val (.ref b30), .unset] [(.int (3 : Int32))])) (fun t k => XS.iload X30.here hx rfl (hb hby at_143) rfl k) ?_
    refine own_by (B := T30.setTop (mkF m 146 #[.val (.int i0), .val (.int i1), .val (.int i2), .val (.int i3), .val (.int i4), .val (.int i5), .val (.int (Int32.ofNat cap)), .val (.int (3 : Int32)), .val (.int (i5 &&& (1073741823 : Int32))), .val (.ref b25), .val (.ref b30), .unset] [(.int (2 : Int32)), (.int (3 : Int32))])) (fun t k => XS.iconst X30.here hx rfl (hb hby at_145) k) ?_
    refine own_by (B := T30.setTop (mkF m 149 #[.val (.int i0), .val (.int i1), .val (.int i2), .val (.int i3), .val (.int i4), .val (.int i5), .val (.int (Int32.ofNat cap)), .val (.int (3 : Int32)), .val (.int (i5 &&& (1073741823 : Int32))), .val (.ref b25), .val (.ref b30), .unset] [])) (fun t k => XS.icmpNo X30.here hx rfl (hb hby at_146) rfl (tlt (by decide)).2.2.2 k) ?_
    refine own_by (B := T30.setTop (mkF m 151 #[.val (.int i0), .val (.int i1), .val (.int i2), .val (.int i3), .val (.int i4), .val (.int i5), .val (.int (Int32.ofNat cap)), .val (.int (3 : Int32)), .val (.int (i5 &&& (1073741823 : Int32))), .val (.ref b25), .val (.ref b30), .unset] [(.ref b30)])) (fun t k => XS.aload X30.here hx rfl (hb hby at_149) rfl rfl k) ?_
    refine own_by (B := T30.setTop (mkF m 152 #[.val (.int i0), .val (.int i1), .val (.int i2), .val (.int i3), .val (.int i4), .val (.int i5), .val (.int (Int32.ofNat cap)), .val (.int (3 : Int32)), .val (.int (i5 &&& (1073741823 : Int32))), .val (.ref b25), .val (.ref b30), .unset] [(.int (2 : Int32)), (.ref b30)])) (fun t k => XS.iconst X30.here hx rfl (hb hby at_151) k) ?_
    obtain ⟨cl34, Ar34, hin34, hat34⟩ := V_b30.at (j := (2 : Int32)) ⟨by decide, by decide⟩
    have hat34 := hat34.trans (congrArg some (show _ = (.int i3) from hg30_2))
    refine own_by (B := T30.setTop (mkF m 153 #[.val (.int i0), .val (.int i1), .val (.int i2), .val (.int i3), .val (.int i4), .val (.int i5), .val (.int (Int32.ofNat cap)), .val (.int (3 : Int32)), .val (.int (i5 &&& (1073741823 : Int32))), .val (.ref b25), .val (.ref b30), .unset] [(.int i3)])) (fun t k => X30.iaload hx (j := (2 : Int32)) (v := (.int i3)) Ar34.1 (State.isArrayOf_alike hZ.alike Ar34.2.1) Ar34.2.2 hin34 hat34 (g := (mkF m 152 #[.val (.int i0), .val (.int i1), .val (.int i2), .val (.int i3), .val (.int i4), .val (.int i5), .val (.int (Int32.ofNat cap)), .val (.int (3 : Int32)), .val (.int (i5 &&& (1073741823 : Int32))), .val (.ref b25), .val (.ref b30), .unset] [(.int (2 : Int32)), (.ref b30)])) rfl rfl (hb hby at_152) _ k) ?_
    refine own_by (B := T30.setTop (mkF m 154 #[.val (.int i0), .val (.int i1), .val (.int i2), .val (.int i3), .val (.int i4), .val (.int i5), .val (.int (Int32.ofNat cap)), .val (.int (3 : Int32)), .val (.int (i5 &&& (1073741823 : Int32))), .val (.ref b25), .val (.ref b30), .unset] [(.int i3), (.int i3)])) (fun t k => XS.iloadN X30.here hx rfl (hb hby at_153) rfl k) ?_
    refine own_by (B := T30.setTop (mkF m 159 #[.val (.int i0), .val (.int i1), .val (.int i2), .val (.int i3), .val (.int i4), .val (.int i5), .val (.int (Int32.ofNat cap)), .val (.int (3 : Int32)), .val (.int (i5 &&& (1073741823 : Int32))), .val (.ref b25), .val (.ref b30), .unset] [])) (fun t k => XS.icmpYes X30.here hx rfl (pc0 := 154) (pc' := 159) rfl (hb hby at_154) rfl (teq rfl).1 (by decide) (by decide) k) ?_
    refine own_by (B := T30.setTop (mkF m 161 #[.val (.int i0), .val (.int i1), .val (.int i2), .val (.int i3), .val (.int i4), .val (.int i5), .val (.int (Int32.ofNat cap)), .val (.int (3 : Int32)), .val (.int (i5 &&& (1073741823 : Int32))), .val (.ref b25), .val (.ref b30), .unset] [(.int (3 : Int32))])) (fun t k => XS.iload X30.here hx rfl (hb hby at_159) rfl k) ?_
    refine own_by (B := T30.setTop (mkF m 162 #[.val (.int i0), .val (.int i1), .val (.int i2), .val (.int i3), .val (.int i4), .val (.int i5), .val (.int (Int32.ofNat cap)), .val (.int (3 : Int32)), .val (.int (i5 &&& (1073741823 : Int32))), .val (.ref b25), .val (.ref b30), .unset] [(.int (3 : Int32)), (.int (3 : Int32))])) (fun t k => XS.iconst X30.here hx rfl (hb hby at_161) k) ?_
    refine own_by (B := T30.setTop (mkF m 176 #[.val (.int i0), .val (.int i1), .val (.int i2), .val (.int i3), .val (.int i4), .val (.int i5), .val (.int (Int32.ofNat cap)), .val (.int (3 : Int32)), .val (.int (i5 &&& (1073741823 : Int32))), .val (.ref b25), .val (.ref b30), .unset] [])) (fun t k => XS.icmpYes X30.here hx rfl (pc0 := 162) (pc' := 176) rfl (hb hby at_162) rfl (flt (by decide)).2.2.2 (by decide) (by decide) k) ?_
    refine own_by (B := T30.setTop (mkF m 178 #[.val (.int i0), .val (.int i1), .val (.int i2), .val (.int i3), .val (.int i4), .val (.int i5), .val (.int (Int32.ofNat cap)), .val (.int (3 : Int32)), .val (.int (i5 &&& (1073741823 : Int32))), .val (.ref b25), .val (.ref b30), .unset] [(.ref b25)])) (fun t k => XS.aload X30.here hx rfl (hb hby at_176) rfl rfl k) ?_
    obtain ⟨cq35, kq35, q35a, q35b, q35c⟩ := isOf hZ rfl E_b25
    obtain ⟨_, _, ⟨T35, L35, k35, n35⟩, -, X35, ⟨Lc35, hQ35, l35, y35, z35⟩, st35⟩ := X30.virtualBack hx (y := (⟨"com/example/surrogate/surrogate/index/Entries", "frequencies", "()[I"⟩ : MethodName)) (z := (⟨"com/example/surrogate/surrogate/index/Entries", "frequencies", "()[I"⟩ : MethodName)) hown (mvT hZ (hw _ (List.mem_of_getElem? (i := 13) rfl))) (mvT hZ (hw _ (List.mem_of_getElem? (i := 14) rfl))) (notFace_of_selects (args := #[]) (mvT hZ (hw _ (List.mem_of_getElem? (i := 16) rfl)))) (mvT hZ (hw _ (List.mem_of_getElem? (i := 16) rfl))) (mvT hZ (hw _ (List.mem_of_getElem? (i := 15) rfl))) (by decide) (backOf (W := 0) (rmF3 l Z a0 hw [] b25 b29 mz29 f29 i1 i2 i3 T30.heap n0 Zs F_size_b25 F_entries_b25 V_b29 ne_b25_b29 (by omega) (by omega) hB29_0 hB29_1 hB29_2) hZ (hw _ (List.mem_of_getElem? (i := 17) rfl)) (hw _ (List.mem_of_getElem? (i := 3) rfl)) (by decide) (by decide)) q35a q35c (g := (mkF m 178 #[.val (.int i0), .val (.int i1), .val (.int i2), .val (.int i3), .val (.int i4), .val (.int i5), .val (.int (Int32.ofNat cap)), .val (.int (3 : Int32)), .val (.int (i5 &&& (1073741823 : Int32))), .val (.ref b25), .val (.ref b30), .unset] [(.ref b25)])) rfl (by rw [hml]; rfl) (Steps.refl _) (argsL := []) (rest := []) (lenOf own_pd3 rfl) rfl (by show 2 * 0 + _ ≤ _; exact Nat.le_of_eq rfl) (hb hby at_178) (fun _ _ => ⟨rfl, rfl, (by decide : 6 + 1 ≤ _), (by decide : 47 + 3 ≤ _)⟩)
    dsimp only [Pt.U, Pt.locs, Pt.cells, Pt.slots] at X35 l35 y35 z35 st35 hQ35
    subst l35 y35 z35
    obtain ⟨rfl, Nq35, Kc35, g35, Vc35, hg35_0, hg35_1, hg35_2⟩ := hQ35
    have Nf := Fr.app Nf Nq35
    obtain ⟨b35, gq35⟩ : ∃ z, z = T30.heap.size := ⟨_, rfl⟩
    rw [← gq35] at Vc35 st35
    have ne_b25_b35 : b25 ≠ b35 := Nat.ne_of_lt (Nat.lt_of_lt_of_le E_b25.lt (Nat.le_of_eq gq35.symm))
    have ne_b29_b35 : b29 ≠ b35 := Nat.ne_of_lt (Nat.lt_of_lt_of_le V_b29.lt (Nat.le_of_eq gq35.symm))
    have ne_b30_b35 : b30 ≠ b35 := Nat.ne_of_lt (Nat.lt_of_lt_of_le V_b30.lt (Nat.le_of_eq gq35.symm))
    have g_b35 : n0 ≤ b35 := Nat.le_trans Zs (Nat.le_of_eq gq35.symm)
    have E_b25 := E_b25.keep Kc35
    have F_size_b25 := F_size_b25.keep Kc35 nin0
    have F_entries_b25 := F_entries_b25.keep Kc35 nin0
    have V_b29 := V_b29.keep Kc35 nin0
    have V_b30 := V_b30.keep Kc35 nin0
    have Zs := Nat.le_trans Zs Kc35.1
    have V_b35 := Vc35
    refine own_by (B := T35.setTop (mkF m 181 #[.val (.int i0), .val (.int i1), .val (.int i2), .val (.int i3), .val (.int i4), .val (.int i5), .val (.int (Int32.ofNat cap)), .val (.int (3 : Int32)), .val (.int (i5 &&& (1073741823 : Int32))), .val (.ref b25), .val (.ref b30), .unset] [(.ref b35)])) (fun t k => st35.trans k) ?_
    refine own_by (B := T35.setTop (mkF m 183 #[.val (.int i0), .val (.int i1), .val (.int i2), .val (.int i3), .val (.int i4), .val (.int i5), .val (.int (Int32.ofNat cap)), .val (.int (3 : Int32)), .val (.int (i5 &&& (1073741823 : Int32))), .val (.ref b25), .val (.ref b30), .val (.ref b35)] [])) (fun t k => XS.astore X35.here hx rfl (hb hby at_181) rfl rfl (l' := #[.val (.int i0), .val (.int i1), .val (.int i2), .val (.int i3), .val (.int i4), .val (.int i5), .val (.int (Int32.ofNat cap)), .val (.int (3 : Int32)), .val (.int (i5 &&& (1073741823 : Int32))), .val (.ref b25), .val (.ref b30), .val (.ref b35)]) rfl k) ?_
    refine own_by (B := T35.setTop (mkF m 185 #[.val (.int i0), .val (.int i1), .val (.int i2), .val (.int i3), .val (.int i4), .val (.int i5), .val (.int (Int32.ofNat cap)), .val (.int (3 : Int32)), .val (.int (i5 &&& (1073741823 : Int32))), .val (.ref b25), .val (.ref b30), .val (.ref b35)] [(.ref b35)])) (fun t k => XS.aload X35.here hx rfl (hb hby at_183) rfl rfl k) ?_
    refine own_by (B := T35.setTop (mkF m 187 #[.val (.int i0), .val (.int i1), .val (.int i2), .val (.int i3), .val (.int i4), .val (.int i5), .val (.int (Int32.ofNat cap)), .val (.int (3 : Int32)), .val (.int (i5 &&& (1073741823 : Int32))), .val (.ref b25), .val (.ref b30), .val (.ref b35)] [(.ref b30), (.ref b35)])) (fun t k => XS.aload X35.here hx rfl (hb hby at_185) rfl rfl k) ?_
    refine own_by (B := T35.setTop (mkF m 192 #[.val (.int i0), .val (.int i1), .val (.int i2), .val (.int i3), .val (.int i4), .val (.int i5), .val (.int (Int32.ofNat cap)), .val (.int (3 : Int32)), .val (.int (i5 &&& (1073741823 : Int32))), .val (.ref b25), .val (.ref b30), .val (.ref b35)] [])) (fun t k => Jvm.RoadKit.acmp (g := (mkF m 187 #[.val (.int i0), .val (.int i1), .val (.int i2), .val (.int i3), .val (.int i4), .val (.int i5), .val (.int (Int32.ofNat cap)), .val (.int (3 : Int32)), .val (.int (i5 &&& (1073741823 : Int32))), .val (.ref b25), .val (.ref b30), .val (.ref b35)] [(.ref b30), (.ref b35)])) X35 hx rfl rfl rfl (pc0 := 187) (pc' := 192) (same := false) rfl (hb hby at_187) rfl (decide_eq_false fun q => (Ne.symm ne_b30_b35) (Value.ref.inj q)) (by decide) (by decide) k) ?_
    refine own_by (B := T35.setTop (mkF m 194 #[.val (.int i0), .val (.int i1), .val (.int i2), .val (.int i3), .val (.int i4), .val (.int i5), .val (.int (Int32.ofNat cap)), .val (.int (3 : Int32)), .val (.int (i5 &&& (1073741823 : Int32))), .val (.ref b25), .val (.ref b30), .val (.ref b35)] [(.ref b35)])) (fun t k => XS.aload X35.here hx rfl (hb hby at_192) rfl rfl k) ?_
    obtain ⟨cl36, Ar36, Sz36, Ng36, -⟩ := id V_b35
    refine own_by (B := T35.setTop (mkF m 195 #[.val (.int i0), .val (.int i1), .val (.int i2), .val (.int i3), .val (.int i4), .val (.int i5), .val (.int (Int32.ofNat cap)), .val (.int (3 : Int32)), .val (.int (i5 &&& (1073741823 : Int32))), .val (.ref b25), .val (.ref b30), .val (.ref b35)] [(.int (3 : Int32))])) (fun t k => X35.arraylength hx Ar36.1 (State.isArrayOf_alike hZ.alike Ar36.2.1) (g := (mkF m 194 #[.val (.int i0), .val (.int i1), .val (.int i2), .val (.int i3), .val (.int i4), .val (.int i5), .val (.int (Int32.ofNat cap)), .val (.int (3 : Int32)), .val (.int (i5 &&& (1073741823 : Int32))), .val (.ref b25), .val (.ref b30), .val (.ref b35)] [(.ref b35)])) rfl rfl (hb hby at_194) _ (by rw [len_of Sz36 Ng36]; exact k)) ?_
    refine own_by (B := T35.setTop (mkF m 197 #[.val (.int i0), .val (.int i1), .val (.int i2), .val (.int i3), .val (.int i4), .val (.int i5), .val (.int (Int32.ofNat cap)), .val (.int (3 : Int32)), .val (.int (i5 &&& (1073741823 : Int32))), .val (.ref b25), .val (.ref b30), .val (.ref b35)] [(.int (3 : Int32)), (.int (3 : Int32))])) (fun t k => XS.iload X35.here hx rfl (hb hby at_195) rfl k) ?_
    refine own_by (B := T35.setTop (mkF m 202 #[.val (.int i0), .val (.int i1), .val (.int i2), .val (.int i3), .val (.int i4), .val (.int i5), .val (.int (Int32.ofNat cap)), .val (.int (3 : Int32)), .val (.int (i5 &&& (1073741823 : Int32))), .val (.ref b25), .val (.ref b30), .val (.ref b35)] [])) (fun t k => XS.icmpYes X35.here hx rfl (pc0 := 197) (pc' := 202) rfl (hb hby at_197) rfl (teq (by decide)).1 (by decide) (by decide) k) ?_
    refine own_by (B := T35.setTop (mkF m 203 #[.val (.int i0), .val (.int i1), .val (.int i2), .val (.int i3), .val (.int i4), .val (.int i5), .val (.int (Int32.ofNat cap)), .val (.int (3 : Int32)), .val (.int (i5 &&& (1073741823 : Int32))), .val (.ref b25), .val (.ref b30), .val (.ref b35)] [(.int (1 : Int32))])) (fun t k => XS.iconst X35.here hx rfl (hb hby at_202) k) ?_
    exact own_end X35 (v := some (.int (1 : Int32))) (fun h => by rw [Bd.returns] at h; cases h) (BodyLoose.notSynchronized Bd) (Q := (Q_rm0 Z i0 i1 i2 i3 i4 i5 h0 n0)) (fun fs hr => retN X35 hx (t := .boolean) Bd.returns (by simp) (hb hby at_203) hr) (show (Q_rm0 Z i0 i1 i2 i3 i4 i5 h0 n0) _ T35.heap _ from (⟨rfl, Nf⟩)) (by decide) (by decide)
  · rw [hq]
    obtain ⟨T37, h37, X37, e37, E37, A37, D37, -, st37⟩ := newO X0 hx hZ hown (hw _ (List.mem_of_getElem? (i := 1) rfl)) (hw _ (List.mem_of_getElem? (i := 2) rfl)) (hw _ (List.mem_of_getElem? (i := 3) rfl)) e0 (g := (mkF m 22 #[.val (.int i0), .val (.int i1), .val (.int i2), .val (.int i3), .val (.int i4), .val (.int i5), .val (.int (Int32.ofNat cap)), .val (.int (4 : Int32)), .val (.int (i5 &&& (1073741823 : Int32))), .unset, .unset, .unset] [])) rfl (hb hby at_22) (by decide) (by decide)
    obtain ⟨b37, gq37⟩ : ∃ z, z = h0.size := ⟨_, rfl⟩
    rw [← gq37] at A37 D37 st37
    have g_b37 : n0 ≤ b37 := Nat.le_trans Zs (Nat.le_of_eq gq37.symm)
    have Zs := Nat.le_trans Zs E37.1
    have E_b37 := A37
    have F_entries_b37 : Fld Z h37 b37 "com/example/surrogate/surrogate/index/Entries" "entries" "[I" .null := D37 (Or.inl (hw _ (List.mem_of_getElem? (i := 12) rfl))) (ty := (.array .int)) (by decide)
    have F_size_b37 : Fld Z h37 b37 "com/example/surrogate/surrogate/index/Entries" "size" "I" (.int (0 : Int32)) := D37 (Or.inl (hw _ (List.mem_of_getElem? (i := 19) rfl))) (ty := .int) (by decide)
    refine own_by (B := T37.setTop (mkF m 25 #[.val (.int i0), .val (.int i1), .val (.int i2), .val (.int i3), .val (.int i4), .val (.int i5), .val (.int (Int32.ofNat cap)), .val (.int (4 : Int32)), .val (.int (i5 &&& (1073741823 : Int32))), .unset, .unset, .unset] [(.ref b37)])) st37 ?_
    refine own_by (B := T37.setTop (mkF m 26 #[.val (.int i0), .val (.int i1), .val (.int i2), .val (.int i3), .val (.int i4), .val (.int i5), .val (.int (Int32.ofNat cap)), .val (.int (4 : Int32)), .val (.int (i5 &&& (1073741823 : Int32))), .unset, .unset, .unset] [(.ref b37), (.ref b37)])) (fun t k => XS.dup X37.here hx rfl (hb hby at_25) rfl rfl k) ?_
    refine own_by (B := T37.setTop (mkF m 28 #[.val (.int i0), .val (.int i1), .val (.int i2), .val (.int i3), .val (.int i4), .val (.int i5), .val (.int (Int32.ofNat cap)), .val (.int (4 : Int32)), .val (.int (i5 &&& (1073741823 : Int32))), .unset, .unset, .unset] [(.int (Int32.ofNat cap)), (.ref b37), (.ref b37)])) (fun t k => XS.iload X37.here hx rfl (hb hby at_26) rfl k) ?_
    obtain ⟨_, _, ⟨T38, L38, k38, n38⟩, -, X38, ⟨Lc38, hQ38, l38, y38, z38⟩, st38⟩ := X37.specialBack hx (y := (⟨"com/example/surrogate/surrogate/index/Entries", "<init>", "(I)V"⟩ : MethodName)) rfl hown (mvT hZ (hw _ (List.mem_of_getElem? (i := 4) rfl))) (mvT hZ (hw _ (List.mem_of_getElem? (i := 5) rfl))) (mvT hZ (hw _ (List.mem_of_getElem? (i := 6) rfl))) (by decide) (backOf (W := 1) (rmI l Z a0 hw [] b37 cap h37 n0 Zs E_b37 F_size_b37 F_entries_b37 g_b37 hcap) hZ (hw _ (List.mem_of_getElem? (i := 6) rfl)) (hw _ (List.mem_of_getElem? (i := 3) rfl)) (by decide) (by decide)) (g := (mkF m 28 #[.val (.int i0), .val (.int i1), .val (.int i2), .val (.int i3), .val (.int i4), .val (.int i5), .val (.int (Int32.ofNat cap)), .val (.int (4 : Int32)), .val (.int (i5 &&& (1073741823 : Int32))), .unset, .unset, .unset] [(.int (Int32.ofNat cap)), (.ref b37), (.ref b37)])) rfl (by rw [hml]; rfl) (Steps.refl _) (a := b37) (argsL := [(.int (Int32.ofNat cap))]) (rest := [(.ref b37)]) (lenOf own_pd2 rfl) rfl (by show 2 * 0 + _ ≤ _; exact Nat.le_of_eq rfl) (hb hby at_28) (fun _ _ => ⟨rfl, e37, (by decide : 1 + 1 ≤ _), (by decide : 2 + 6 ≤ _)⟩)
    dsimp only [Pt.U, Pt.locs, Pt.cells, Pt.slots] at X38 l38 y38 z38 st38 hQ38
    subst l38 y38 z38
    obtain ⟨rfl, Nq38, Kc38, Fs38, b38, f38, g_b38, ne_b37_b38, Fe38, Vc38, hz38⟩ := hQ38
    have Nf := Fr.app Nf Nq38
    have E_b37 := E_b37.keep Kc38
    have Zs := Nat.le_trans Zs Kc38.1
    have F_size_b37 := Fs38
    have F_entries_b37 := Fe38
    have V_b38 := Vc38
    have hint38 : ∀ i, i < 2 * cap → ∃ x, f38 i = .int x := fun i _ => ⟨_, hz38 i⟩
    refine own_by (B := T38.setTop (mkF m 31 #[.val (.int i0), .val (.int i1), .val (.int i2), .val (.int i3), .val (.int i4), .val (.int i5), .val (.int (Int32.ofNat cap)), .val (.int (4 : Int32)), .val (.int (i5 &&& (1073741823 : Int32))), .unset, .unset, .unset] [(.ref b37)])) (fun t k => st38.trans k) ?_
    refine own_by (B := T38.setTop (mkF m 33 #[.val (.int i0), .val (.int i1), .val (.int i2), .val (.int i3), .val (.int i4), .val (.int i5), .val (.int (Int32.ofNat cap)), .val (.int (4 : Int32)), .val (.int (i5 &&& (1073741823 : Int32))), .val (.ref b37), .unset, .unset] [])) (fun t k => XS.astore X38.here hx rfl (hb hby at_31) rfl rfl (l' := #[.val (.int i0), .val (.int i1), .val (.int i2), .val (.int i3), .val (.int i4), .val (.int i5), .val (.int (Int32.ofNat cap)), .val (.int (4 : Int32)), .val (.int (i5 &&& (1073741823 : Int32))), .val (.ref b37), .unset, .unset]) rfl k) ?_
    refine own_by (B := T38.setTop (mkF m 35 #[.val (.int i0), .val (.int i1), .val (.int i2), .val (.int i3), .val (.int i4), .val (.int i5), .val (.int (Int32.ofNat cap)), .val (.int (4 : Int32)), .val (.int (i5 &&& (1073741823 : Int32))), .val (.ref b37), .unset, .unset] [(.int (4 : Int32))])) (fun t k => XS.iload X38.here hx rfl (hb hby at_33) rfl k) ?_
    refine own_by (B := T38.setTop (mkF m 38 #[.val (.int i0), .val (.int i1), .val (.int i2), .val (.int i3), .val (.int i4), .val (.int i5), .val (.int (Int32.ofNat cap)), .val (.int (4 : Int32)), .val (.int (i5 &&& (1073741823 : Int32))), .val (.ref b37), .unset, .unset] [])) (fun t k => XS.ifNo X38.here hx rfl (hb hby at_35) rfl ((if0 _ _).trans (tlt (by decide)).2.2.2) k) ?_
    refine own_by (B := T38.setTop (mkF m 40 #[.val (.int i0), .val (.int i1), .val (.int i2), .val (.int i3), .val (.int i4), .val (.int i5), .val (.int (Int32.ofNat cap)), .val (.int (4 : Int32)), .val (.int (i5 &&& (1073741823 : Int32))), .val (.ref b37), .unset, .unset] [(.ref b37)])) (fun t k => XS.aload X38.here hx rfl (hb hby at_38) rfl rfl k) ?_
    refine own_by (B := T38.setTop (mkF m 42 #[.val (.int i0), .val (.int i1), .val (.int i2), .val (.int i3), .val (.int i4), .val (.int i5), .val (.int (Int32.ofNat cap)), .val (.int (4 : Int32)), .val (.int (i5 &&& (1073741823 : Int32))), .val (.ref b37), .unset, .unset] [(.int (i5 &&& (1073741823 : Int32))), (.ref b37)])) (fun t k => XS.iload X38.here hx rfl (hb hby at_40) rfl k) ?_
    refine own_by (B := T38.setTop (mkF m 43 #[.val (.int i0), .val (.int i1), .val (.int i2), .val (.int i3), .val (.int i4), .val (.int i5), .val (.int (Int32.ofNat cap)), .val (.int (4 : Int32)), .val (.int (i5 &&& (1073741823 : Int32))), .val (.ref b37), .unset, .unset] [(.int i1), (.int (i5 &&& (1073741823 : Int32))), (.ref b37)])) (fun t k => XS.iloadN X38.here hx rfl (hb hby at_42) rfl k) ?_
    obtain ⟨cq39, kq39, q39a, q39b, q39c⟩ := isOf hZ rfl E_b37
    obtain ⟨_, _, ⟨T39, L39, k39, n39⟩, -, X39, ⟨Lc39, hQ39, l39, y39, z39⟩, st39⟩ := X38.virtualBack hx (y := (⟨"com/example/surrogate/surrogate/index/Entries", "add", "(II)V"⟩ : MethodName)) (z := (⟨"com/example/surrogate/surrogate/index/Entries", "add", "(II)V"⟩ : MethodName)) hown (mvT hZ (hw _ (List.mem_of_getElem? (i := 20) rfl))) (mvT hZ (hw _ (List.mem_of_getElem? (i := 21) rfl))) (notFace_of_selects (args := #[]) (mvT hZ (hw _ (List.mem_of_getElem? (i := 23) rfl)))) (mvT hZ (hw _ (List.mem_of_getElem? (i := 23) rfl))) (mvT hZ (hw _ (List.mem_of_getElem? (i := 22) rfl))) (by decide) (backOf (W := 0) (rmA l Z a0 hw [] b37 (i5 &&& (1073741823 : Int32)) i1 b38 0 (2 * cap) f38 T38.heap n0 Zs E_b37 F_size_b37 F_entries_b37 V_b38 hint38 g_b37 g_b38 ne_b37_b38 (by omega) (by omega) (by omega) (by omega)) hZ (hw _ (List.mem_of_getElem? (i := 24) rfl)) (hw _ (List.mem_of_getElem? (i := 3) rfl)) (by decide) (by decide)) q39a q39c (g := (mkF m 43 #[.val (.int i0), .val (.int i1), .val (.int i2), .val (.int i3), .val (.int i4), .val (.int i5), .val (.int (Int32.ofNat cap)), .val (.int (4 : Int32)), .val (.int (i5 &&& (1073741823 : Int32))), .val (.ref b37), .unset, .unset] [(.int i1), (.int (i5 &&& (1073741823 : Int32))), (.ref b37)])) rfl (by rw [hml]; rfl) (Steps.refl _) (argsL := [(.int (i5 &&& (1073741823 : Int32))), (.int i1)]) (rest := []) (lenOf own_pd4 rfl) rfl (by show 2 * 0 + _ ≤ _; exact Nat.le_of_eq rfl) (hb hby at_43) (fun _ _ => ⟨rfl, rfl, (by decide : 2 + 1 ≤ _), (by decide : 8 + 12 ≤ _)⟩)
    dsimp only [Pt.U, Pt.locs, Pt.cells, Pt.slots] at X39 l39 y39 z39 st39 hQ39
    subst l39 y39 z39
    obtain ⟨rfl, Nq39, Kc39, Fs39, b39, mz39, f39, g_b39, ne_b37_b39, Fe39, Vc39, hma39, hmb39, hmc39, hne39, hnf39, hol39, hin39⟩ := hQ39
    have Nf := Fr.app Nf Nq39
    have E_b37 := E_b37.keep Kc39
    have Zs := Nat.le_trans Zs Kc39.1
    have F_size_b37 := Fs39
    have F_entries_b37 := Fe39
    have V_b39 := Vc39
    have hA39_0 : f39 0 = .int (i5 &&& (1073741823 : Int32)) := hne39
    have hB39_0 : f39 1 = .int i1 := hnf39
    refine own_by (B := T39.setTop (mkF m 46 #[.val (.int i0), .val (.int i1), .val (.int i2), .val (.int i3), .val (.int i4), .val (.int i5), .val (.int (Int32.ofNat cap)), .val (.int (4 : Int32)), .val (.int (i5 &&& (1073741823 : Int32))), .val (.ref b37), .unset, .unset] [])) (fun t k => st39.trans k) ?_
    refine own_by (B := T39.setTop (mkF m 48 #[.val (.int i0), .val (.int i1), .val (.int i2), .val (.int i3), .val (.int i4), .val (.int i5), .val (.int (Int32.ofNat cap)), .val (.int (4 : Int32)), .val (.int (i5 &&& (1073741823 : Int32))), .val (.ref b37), .unset, .unset] [(.int (4 : Int32))])) (fun t k => XS.iload X39.here hx rfl (hb hby at_46) rfl k) ?_
    refine own_by (B := T39.setTop (mkF m 49 #[.val (.int i0), .val (.int i1), .val (.int i2), .val (.int i3), .val (.int i4), .val (.int i5), .val (.int (Int32.ofNat cap)), .val (.int (4 : Int32)), .val (.int (i5 &&& (1073741823 : Int32))), .val (.ref b37), .unset, .unset] [(.int (1 : Int32)), (.int (4 : Int32))])) (fun t k => XS.iconst X39.here hx rfl (hb hby at_48) k) ?_
    refine own_by (B := T39.setTop (mkF m 52 #[.val (.int i0), .val (.int i1), .val (.int i2), .val (.int i3), .val (.int i4), .val (.int i5), .val (.int (Int32.ofNat cap)), .val (.int (4 : Int32)), .val (.int (i5 &&& (1073741823 : Int32))), .val (.ref b37), .unset, .unset] [])) (fun t k => XS.icmpNo X39.here hx rfl (hb hby at_49) rfl (tlt (by decide)).2.2.2 k) ?_
    refine own_by (B := T39.setTop (mkF m 54 #[.val (.int i0), .val (.int i1), .val (.int i2), .val (.int i3), .val (.int i4), .val (.int i5), .val (.int (Int32.ofNat cap)), .val (.int (4 : Int32)), .val (.int (i5 &&& (1073741823 : Int32))), .val (.ref b37), .unset, .unset] [(.ref b37)])) (fun t k => XS.aload X39.here hx rfl (hb hby at_52) rfl rfl k) ?_
    refine own_by (B := T39.setTop (mkF m 56 #[.val (.int i0), .val (.int i1), .val (.int i2), .val (.int i3), .val (.int i4), .val (.int i5), .val (.int (Int32.ofNat cap)), .val (.int (4 : Int32)), .val (.int (i5 &&& (1073741823 : Int32))), .val (.ref b37), .unset, .unset] [(.int (i5 &&& (1073741823 : Int32))), (.ref b37)])) (fun t k => XS.iload X39.here hx rfl (hb hby at_54) rfl k) ?_
    refine own_by (B := T39.setTop (mkF m 57 #[.val (.int i0), .val (.int i1), .val (.int i2), .val (.int i3), .val (.int i4), .val (.int i5), .val (.int (Int32.ofNat cap)), .val (.int (4 : Int32)), .val (.int (i5 &&& (1073741823 : Int32))), .val (.ref b37), .unset, .unset] [(.int (1 : Int32)), (.int (i5 &&& (1073741823 : Int32))), (.ref b37)])) (fun t k => XS.iconst X39.here hx rfl (hb hby at_56) k) ?_
    refine own_by (B := T39.setTop (mkF m 58 #[.val (.int i0), .val (.int i1), .val (.int i2), .val (.int i3), .val (.int i4), .val (.int i5), .val (.int (Int32.ofNat cap)), .val (.int (4 : Int32)), .val (.int (i5 &&& (1073741823 : Int32))), .val (.ref b37), .unset, .unset] [(.int ((i5 &&& (1073741823 : Int32)) + (1 : Int32))), (.ref b37)])) (fun t k => XS.iadd X39.here hx rfl (hb hby at_57) rfl k) ?_
    refine own_by (B := T39.setTop (mkF m 59 #[.val (.int i0), .val (.int i1), .val (.int i2), .val (.int i3), .val (.int i4), .val (.int i5), .val (.int (Int32.ofNat cap)), .val (.int (4 : Int32)), .val (.int (i5 &&& (1073741823 : Int32))), .val (.ref b37), .unset, .unset] [(.int i2), (.int ((i5 &&& (1073741823 : Int32)) + (1 : Int32))), (.ref b37)])) (fun t k => XS.iloadN X39.here hx rfl (hb hby at_58) rfl k) ?_
    obtain ⟨cq40, kq40, q40a, q40b, q40c⟩ := isOf hZ rfl E_b37
    obtain ⟨_, _, ⟨T40, L40, k40, n40⟩, -, X40, ⟨Lc40, hQ40, l40, y40, z40⟩, st40⟩ := X39.virtualBack hx (y := (⟨"com/example/surrogate/surrogate/index/Entries", "add", "(II)V"⟩ : MethodName)) (z := (⟨"com/example/surrogate/surrogate/index/Entries", "add", "(II)V"⟩ : MethodName)) hown (mvT hZ (hw _ (List.mem_of_getElem? (i := 20) rfl))) (mvT hZ (hw _ (List.mem_of_getElem? (i := 21) rfl))) (notFace_of_selects (args := #[]) (mvT hZ (hw _ (List.mem_of_getElem? (i := 23) rfl)))) (mvT hZ (hw _ (List.mem_of_getElem? (i := 23) rfl))) (mvT hZ (hw _ (List.mem_of_getElem? (i := 22) rfl))) (by decide) (backOf (W := 0) (rmA l Z a0 hw [] b37 ((i5 &&& (1073741823 : Int32)) + (1 : Int32)) i2 b39 1 mz39 f39 T39.heap n0 Zs E_b37 F_size_b37 F_entries_b37 V_b39 hin39 g_b37 g_b39 ne_b37_b39 (by omega) (by omega) (by omega) (by omega)) hZ (hw _ (List.mem_of_getElem? (i := 24) rfl)) (hw _ (List.mem_of_getElem? (i := 3) rfl)) (by decide) (by decide)) q40a q40c (g := (mkF m 59 #[.val (.int i0), .val (.int i1), .val (.int i2), .val (.int i3), .val (.int i4), .val (.int i5), .val (.int (Int32.ofNat cap)), .val (.int (4 : Int32)), .val (.int (i5 &&& (1073741823 : Int32))), .val (.ref b37), .unset, .unset] [(.int i2), (.int ((i5 &&& (1073741823 : Int32)) + (1 : Int32))), (.ref b37)])) rfl (by rw [hml]; rfl) (Steps.refl _) (argsL := [(.int ((i5 &&& (1073741823 : Int32)) + (1 : Int32))), (.int i2)]) (rest := []) (lenOf own_pd4 rfl) rfl (by show 2 * 0 + _ ≤ _; exact Nat.le_of_eq rfl) (hb hby at_59) (fun _ _ => ⟨rfl, rfl, (by decide : 3 + 1 ≤ _), (by decide : 20 + 12 ≤ _)⟩)
    dsimp only [Pt.U, Pt.locs, Pt.cells, Pt.slots] at X40 l40 y40 z40 st40 hQ40
    subst l40 y40 z40
    obtain ⟨rfl, Nq40, Kc40, Fs40, b40, mz40, f40, g_b40, ne_b37_b40, Fe40, Vc40, hma40, hmb40, hmc40, hne40, hnf40, hol40, hin40⟩ := hQ40
    have Nf := Fr.app Nf Nq40
    have E_b37 := E_b37.keep Kc40
    have Zs := Nat.le_trans Zs Kc40.1
    have F_size_b37 := Fs40
    have F_entries_b37 := Fe40
    have V_b40 := Vc40
    have hA40_0 : f40 0 = .int (i5 &&& (1073741823 : Int32)) := (hol40 0 (by omega)).trans hA39_0
    have hB40_0 : f40 1 = .int i1 := (hol40 1 (by omega)).trans hB39_0
    have hA40_1 : f40 2 = .int ((i5 &&& (1073741823 : Int32)) + (1 : Int32)) := hne40
    have hB40_1 : f40 3 = .int i2 := hnf40
    refine own_by (B := T40.setTop (mkF m 62 #[.val (.int i0), .val (.int i1), .val (.int i2), .val (.int i3), .val (.int i4), .val (.int i5), .val (.int (Int32.ofNat cap)), .val (.int (4 : Int32)), .val (.int (i5 &&& (1073741823 : Int32))), .val (.ref b37), .unset, .unset] [])) (fun t k => st40.trans k) ?_
    refine own_by (B := T40.setTop (mkF m 64 #[.val (.int i0), .val (.int i1), .val (.int i2), .val (.int i3), .val (.int i4), .val (.int i5), .val (.int (Int32.ofNat cap)), .val (.int (4 : Int32)), .val (.int (i5 &&& (1073741823 : Int32))), .val (.ref b37), .unset, .unset] [(.int (4 : Int32))])) (fun t k => XS.iload X40.here hx rfl (hb hby at_62) rfl k) ?_
    refine own_by (B := T40.setTop (mkF m 65 #[.val (.int i0), .val (.int i1), .val (.int i2), .val (.int i3), .val (.int i4), .val (.int i5), .val (.int (Int32.ofNat cap)), .val (.int (4 : Int32)), .val (.int (i5 &&& (1073741823 : Int32))), .val (.ref b37), .unset, .unset] [(.int (2 : Int32)), (.int (4 : Int32))])) (fun t k => XS.iconst X40.here hx rfl (hb hby at_64) k) ?_
    refine own_by (B := T40.setTop (mkF m 68 #[.val (.int i0), .val (.int i1), .val (.int i2), .val (.int i3), .val (.int i4), .val (.int i5), .val (.int (Int32.ofNat cap)), .val (.int (4 : Int32)), .val (.int (i5 &&& (1073741823 : Int32))), .val (.ref b37), .unset, .unset] [])) (fun t k => XS.icmpNo X40.here hx rfl (hb hby at_65) rfl (tlt (by decide)).2.2.2 k) ?_
    refine own_by (B := T40.setTop (mkF m 70 #[.val (.int i0), .val (.int i1), .val (.int i2), .val (.int i3), .val (.int i4), .val (.int i5), .val (.int (Int32.ofNat cap)), .val (.int (4 : Int32)), .val (.int (i5 &&& (1073741823 : Int32))), .val (.ref b37), .unset, .unset] [(.ref b37)])) (fun t k => XS.aload X40.here hx rfl (hb hby at_68) rfl rfl k) ?_
    refine own_by (B := T40.setTop (mkF m 72 #[.val (.int i0), .val (.int i1), .val (.int i2), .val (.int i3), .val (.int i4), .val (.int i5), .val (.int (Int32.ofNat cap)), .val (.int (4 : Int32)), .val (.int (i5 &&& (1073741823 : Int32))), .val (.ref b37), .unset, .unset] [(.int (i5 &&& (1073741823 : Int32))), (.ref b37)])) (fun t k => XS.iload X40.here hx rfl (hb hby at_70) rfl k) ?_
    refine own_by (B := T40.setTop (mkF m 73 #[.val (.int i0), .val (.int i1), .val (.int i2), .val (.int i3), .val (.int i4), .val (.int i5), .val (.int (Int32.ofNat cap)), .val (.int (4 : Int32)), .val (.int (i5 &&& (1073741823 : Int32))), .val (.ref b37), .unset, .unset] [(.int (2 : Int32)), (.int (i5 &&& (1073741823 : Int32))), (.ref b37)])) (fun t k => XS.iconst X40.here hx rfl (hb hby at_72) k) ?_
    refine own_by (B := T40.setTop (mkF m 74 #[.val (.int i0), .val (.int i1), .val (.int i2), .val (.int i3), .val (.int i4), .val (.int i5), .val (.int (Int32.ofNat cap)), .val (.int (4 : Int32)), .val (.int (i5 &&& (1073741823 : Int32))), .val (.ref b37), .unset, .unset] [(.int ((i5 &&& (1073741823 : Int32)) + (2 : Int32))), (.ref b37)])) (fun t k => XS.iadd X40.here hx rfl (hb hby at_73) rfl k) ?_
    refine own_by (B := T40.setTop (mkF m 75 #[.val (.int i0), .val (.int i1), .val (.int i2), .val (.int i3), .val (.int i4), .val (.int i5), .val (.int (Int32.ofNat cap)), .val (.int (4 : Int32)), .val (.int (i5 &&& (1073741823 : Int32))), .val (.ref b37), .unset, .unset] [(.int i3), (.int ((i5 &&& (1073741823 : Int32)) + (2 : Int32))), (.ref b37)])) (fun t k => XS.iloadN X40.here hx rfl (hb hby at_74) rfl k) ?_
    obtain ⟨cq41, kq41, q41a, q41b, q41c⟩ := isOf hZ rfl E_b37
    obtain ⟨_, _, ⟨T41, L41, k41, n41⟩, -, X41, ⟨Lc41, hQ41, l41, y41, z41⟩, st41⟩ := X40.virtualBack hx (y := (⟨"com/example/surrogate/surrogate/index/Entries", "add", "(II)V"⟩ : MethodName)) (z := (⟨"com/example/surrogate/surrogate/index/Entries", "add", "(II)V"⟩ : MethodName)) hown (mvT hZ (hw _ (List.mem_of_getElem? (i := 20) rfl))) (mvT hZ (hw _ (List.mem_of_getElem? (i := 21) rfl))) (notFace_of_selects (args := #[]) (mvT hZ (hw _ (List.mem_of_getElem? (i := 23) rfl)))) (mvT hZ (hw _ (List.mem_of_getElem? (i := 23) rfl))) (mvT hZ (hw _ (List.mem_of_getElem? (i := 22) rfl))) (by decide) (backOf (W := 0) (rmA l Z a0 hw [] b37 ((i5 &&& (1073741823 : Int32)) + (2 : Int32)) i3 b40 2 mz40 f40 T40.heap n0 Zs E_b37 F_size_b37 F_entries_b37 V_b40 hin40 g_b37 g_b40 ne_b37_b40 (by omega) (by omega) (by omega) (by omega)) hZ (hw _ (List.mem_of_getElem? (i := 24) rfl)) (hw _ (List.mem_of_getElem? (i := 3) rfl)) (by decide) (by decide)) q41a q41c (g := (mkF m 75 #[.val (.int i0), .val (.int i1), .val (.int i2), .val (.int i3), .val (.int i4), .val (.int i5), .val (.int (Int32.ofNat cap)), .val (.int (4 : Int32)), .val (.int (i5 &&& (1073741823 : Int32))), .val (.ref b37), .unset, .unset] [(.int i3), (.int ((i5 &&& (1073741823 : Int32)) + (2 : Int32))), (.ref b37)])) rfl (by rw [hml]; rfl) (Steps.refl _) (argsL := [(.int ((i5 &&& (1073741823 : Int32)) + (2 : Int32))), (.int i3)]) (rest := []) (lenOf own_pd4 rfl) rfl (by show 2 * 0 + _ ≤ _; exact Nat.le_of_eq rfl) (hb hby at_75) (fun _ _ => ⟨rfl, rfl, (by decide : 4 + 1 ≤ _), (by decide : 32 + 12 ≤ _)⟩)
    dsimp only [Pt.U, Pt.locs, Pt.cells, Pt.slots] at X41 l41 y41 z41 st41 hQ41
    subst l41 y41 z41
    obtain ⟨rfl, Nq41, Kc41, Fs41, b41, mz41, f41, g_b41, ne_b37_b41, Fe41, Vc41, hma41, hmb41, hmc41, hne41, hnf41, hol41, hin41⟩ := hQ41
    have Nf := Fr.app Nf Nq41
    have E_b37 := E_b37.keep Kc41
    have Zs := Nat.le_trans Zs Kc41.1
    have F_size_b37 := Fs41
    have F_entries_b37 := Fe41
    have V_b41 := Vc41
    have hA41_0 : f41 0 = .int (i5 &&& (1073741823 : Int32)) := (hol41 0 (by omega)).trans hA40_0
    have hB41_0 : f41 1 = .int i1 := (hol41 1 (by omega)).trans hB40_0
    have hA41_1 : f41 2 = .int ((i5 &&& (1073741823 : Int32)) + (1 : Int32)) := (hol41 2 (by omega)).trans hA40_1
    have hB41_1 : f41 3 = .int i2 := (hol41 3 (by omega)).trans hB40_1
    have hA41_2 : f41 4 = .int ((i5 &&& (1073741823 : Int32)) + (2 : Int32)) := hne41
    have hB41_2 : f41 5 = .int i3 := hnf41
    refine own_by (B := T41.setTop (mkF m 78 #[.val (.int i0), .val (.int i1), .val (.int i2), .val (.int i3), .val (.int i4), .val (.int i5), .val (.int (Int32.ofNat cap)), .val (.int (4 : Int32)), .val (.int (i5 &&& (1073741823 : Int32))), .val (.ref b37), .unset, .unset] [])) (fun t k => st41.trans k) ?_
    refine own_by (B := T41.setTop (mkF m 80 #[.val (.int i0), .val (.int i1), .val (.int i2), .val (.int i3), .val (.int i4), .val (.int i5), .val (.int (Int32.ofNat cap)), .val (.int (4 : Int32)), .val (.int (i5 &&& (1073741823 : Int32))), .val (.ref b37), .unset, .unset] [(.int (4 : Int32))])) (fun t k => XS.iload X41.here hx rfl (hb hby at_78) rfl k) ?_
    refine own_by (B := T41.setTop (mkF m 81 #[.val (.int i0), .val (.int i1), .val (.int i2), .val (.int i3), .val (.int i4), .val (.int i5), .val (.int (Int32.ofNat cap)), .val (.int (4 : Int32)), .val (.int (i5 &&& (1073741823 : Int32))), .val (.ref b37), .unset, .unset] [(.int (3 : Int32)), (.int (4 : Int32))])) (fun t k => XS.iconst X41.here hx rfl (hb hby at_80) k) ?_
    refine own_by (B := T41.setTop (mkF m 84 #[.val (.int i0), .val (.int i1), .val (.int i2), .val (.int i3), .val (.int i4), .val (.int i5), .val (.int (Int32.ofNat cap)), .val (.int (4 : Int32)), .val (.int (i5 &&& (1073741823 : Int32))), .val (.ref b37), .unset, .unset] [])) (fun t k => XS.icmpNo X41.here hx rfl (hb hby at_81) rfl (tlt (by decide)).2.2.2 k) ?_
    refine own_by (B := T41.setTop (mkF m 86 #[.val (.int i0), .val (.int i1), .val (.int i2), .val (.int i3), .val (.int i4), .val (.int i5), .val (.int (Int32.ofNat cap)), .val (.int (4 : Int32)), .val (.int (i5 &&& (1073741823 : Int32))), .val (.ref b37), .unset, .unset] [(.ref b37)])) (fun t k => XS.aload X41.here hx rfl (hb hby at_84) rfl rfl k) ?_
    refine own_by (B := T41.setTop (mkF m 88 #[.val (.int i0), .val (.int i1), .val (.int i2), .val (.int i3), .val (.int i4), .val (.int i5), .val (.int (Int32.ofNat cap)), .val (.int (4 : Int32)), .val (.int (i5 &&& (1073741823 : Int32))), .val (.ref b37), .unset, .unset] [(.int (i5 &&& (1073741823 : Int32))), (.ref b37)])) (fun t k => XS.iload X41.here hx rfl (hb hby at_86) rfl k) ?_
    refine own_by (B := T41.setTop (mkF m 89 #[.val (.int i0), .val (.int i1), .val (.int i2), .val (.int i3), .val (.int i4), .val (.int i5), .val (.int (Int32.ofNat cap)), .val (.int (4 : Int32)), .val (.int (i5 &&& (1073741823 : Int32))), .val (.ref b37), .unset, .unset] [(.int (3 : Int32)), (.int (i5 &&& (1073741823 : Int32))), (.ref b37)])) (fun t k => XS.iconst X41.here hx rfl (hb hby at_88) k) ?_
    refine own_by (B := T41.setTop (mkF m 90 #[.val (.int i0), .val (.int i1), .val (.int i2), .val (.int i3), .val (.int i4), .val (.int i5), .val (.int (Int32.ofNat cap)), .val (.int (4 : Int32)), .val (.int (i5 &&& (1073741823 : Int32))), .val (.ref b37), .unset, .unset] [(.int ((i5 &&& (1073741823 : Int32)) + (3 : Int32))), (.ref b37)])) (fun t k => XS.iadd X41.here hx rfl (hb hby at_89) rfl k) ?_
    refine own_by (B := T41.setTop (mkF m 92 #[.val (.int i0), .val (.int i1), .val (.int i2), .val (.int i3), .val (.int i4), .val (.int i5), .val (.int (Int32.ofNat cap)), .val (.int (4 : Int32)), .val (.int (i5 &&& (1073741823 : Int32))), .val (.ref b37), .unset, .unset] [(.int i4), (.int ((i5 &&& (1073741823 : Int32)) + (3 : Int32))), (.ref b37)])) (fun t k => XS.iload X41.here hx rfl (hb hby at_90) rfl k) ?_
    obtain ⟨cq42, kq42, q42a, q42b, q42c⟩ := isOf hZ rfl E_b37
    obtain ⟨_, _, ⟨T42, L42, k42, n42⟩, -, X42, ⟨Lc42, hQ42, l42, y42, z42⟩, st42⟩ := X41.virtualBack hx (y := (⟨"com/example/surrogate/surrogate/index/Entries", "add", "(II)V"⟩ : MethodName)) (z := (⟨"com/example/surrogate/surrogate/index/Entries", "add", "(II)V"⟩ : MethodName)) hown (mvT hZ (hw _ (List.mem_of_getElem? (i := 20) rfl))) (mvT hZ (hw _ (List.mem_of_getElem? (i := 21) rfl))) (notFace_of_selects (args := #[]) (mvT hZ (hw _ (List.mem_of_getElem? (i := 23) rfl)))) (mvT hZ (hw _ (List.mem_of_getElem? (i := 23) rfl))) (mvT hZ (hw _ (List.mem_of_getElem? (i := 22) rfl))) (by decide) (backOf (W := 0) (rmA l Z a0 hw [] b37 ((i5 &&& (1073741823 : Int32)) + (3 : Int32)) i4 b41 3 mz41 f41 T41.heap n0 Zs E_b37 F_size_b37 F_entries_b37 V_b41 hin41 g_b37 g_b41 ne_b37_b41 (by omega) (by omega) (by omega) (by omega)) hZ (hw _ (List.mem_of_getElem? (i := 24) rfl)) (hw _ (List.mem_of_getElem? (i := 3) rfl)) (by decide) (by decide)) q42a q42c (g := (mkF m 92 #[.val (.int i0), .val (.int i1), .val (.int i2), .val (.int i3), .val (.int i4), .val (.int i5), .val (.int (Int32.ofNat cap)), .val (.int (4 : Int32)), .val (.int (i5 &&& (1073741823 : Int32))), .val (.ref b37), .unset, .unset] [(.int i4), (.int ((i5 &&& (1073741823 : Int32)) + (3 : Int32))), (.ref b37)])) rfl (by rw [hml]; rfl) (Steps.refl _) (argsL := [(.int ((i5 &&& (1073741823 : Int32)) + (3 : Int32))), (.int i4)]) (rest := []) (lenOf own_pd4 rfl) rfl (by show 2 * 0 + _ ≤ _; exact Nat.le_of_eq rfl) (hb hby at_92) (fun _ _ => ⟨rfl, rfl, (by decide : 5 + 1 ≤ _), (by decide : 44 + 12 ≤ _)⟩)
    dsimp only [Pt.U, Pt.locs, Pt.cells, Pt.slots] at X42 l42 y42 z42 st42 hQ42
    subst l42 y42 z42
    obtain ⟨rfl, Nq42, Kc42, Fs42, b42, mz42, f42, g_b42, ne_b37_b42, Fe42, Vc42, hma42, hmb42, hmc42, hne42, hnf42, hol42, hin42⟩ := hQ42
    have Nf := Fr.app Nf Nq42
    have E_b37 := E_b37.keep Kc42
    have Zs := Nat.le_trans Zs Kc42.1
    have F_size_b37 := Fs42
    have F_entries_b37 := Fe42
    have V_b42 := Vc42
    have hA42_0 : f42 0 = .int (i5 &&& (1073741823 : Int32)) := (hol42 0 (by omega)).trans hA41_0
    have hB42_0 : f42 1 = .int i1 := (hol42 1 (by omega)).trans hB41_0
    have hA42_1 : f42 2 = .int ((i5 &&& (1073741823 : Int32)) + (1 : Int32)) := (hol42 2 (by omega)).trans hA41_1
    have hB42_1 : f42 3 = .int i2 := (hol42 3 (by omega)).trans hB41_1
    have hA42_2 : f42 4 = .int ((i5 &&& (1073741823 : Int32)) + (2 : Int32)) := (hol42 4 (by omega)).trans hA41_2
    have hB42_2 : f42 5 = .int i3 := (hol42 5 (by omega)).trans hB41_2
    have hA42_3 : f42 6 = .int ((i5 &&& (1073741823 : Int32)) + (3 : Int32)) := hne42
    have hB42_3 : f42 7 = .int i4 := hnf42
    refine own_by (B := T42.setTop (mkF m 95 #[.val (.int i0), .val (.int i1), .val (.int i2), .val (.int i3), .val (.int i4), .val (.int i5), .val (.int (Int32.ofNat cap)), .val (.int (4 : Int32)), .val (.int (i5 &&& (1073741823 : Int32))), .val (.ref b37), .unset, .unset] [])) (fun t k => st42.trans k) ?_
    refine own_by (B := T42.setTop (mkF m 97 #[.val (.int i0), .val (.int i1), .val (.int i2), .val (.int i3), .val (.int i4), .val (.int i5), .val (.int (Int32.ofNat cap)), .val (.int (4 : Int32)), .val (.int (i5 &&& (1073741823 : Int32))), .val (.ref b37), .unset, .unset] [(.ref b37)])) (fun t k => XS.aload X42.here hx rfl (hb hby at_95) rfl rfl k) ?_
    obtain ⟨cq43, kq43, q43a, q43b, q43c⟩ := isOf hZ rfl E_b37
    obtain ⟨_, _, ⟨T43, L43, k43, n43⟩, -, X43, ⟨Lc43, hQ43, l43, y43, z43⟩, st43⟩ := X42.virtualBack hx (y := (⟨"com/example/surrogate/surrogate/index/Entries", "frequencies", "()[I"⟩ : MethodName)) (z := (⟨"com/example/surrogate/surrogate/index/Entries", "frequencies", "()[I"⟩ : MethodName)) hown (mvT hZ (hw _ (List.mem_of_getElem? (i := 13) rfl))) (mvT hZ (hw _ (List.mem_of_getElem? (i := 14) rfl))) (notFace_of_selects (args := #[]) (mvT hZ (hw _ (List.mem_of_getElem? (i := 16) rfl)))) (mvT hZ (hw _ (List.mem_of_getElem? (i := 16) rfl))) (mvT hZ (hw _ (List.mem_of_getElem? (i := 15) rfl))) (by decide) (backOf (W := 0) (rmF4 l Z a0 hw [] b37 b42 mz42 f42 i1 i2 i3 i4 T42.heap n0 Zs F_size_b37 F_entries_b37 V_b42 ne_b37_b42 (by omega) (by omega) hB42_0 hB42_1 hB42_2 hB42_3) hZ (hw _ (List.mem_of_getElem? (i := 17) rfl)) (hw _ (List.mem_of_getElem? (i := 3) rfl)) (by decide) (by decide)) q43a q43c (g := (mkF m 97 #[.val (.int i0), .val (.int i1), .val (.int i2), .val (.int i3), .val (.int i4), .val (.int i5), .val (.int (Int32.ofNat cap)), .val (.int (4 : Int32)), .val (.int (i5 &&& (1073741823 : Int32))), .val (.ref b37), .unset, .unset] [(.ref b37)])) rfl (by rw [hml]; rfl) (Steps.refl _) (argsL := []) (rest := []) (lenOf own_pd3 rfl) rfl (by show 2 * 0 + _ ≤ _; exact Nat.le_of_eq rfl) (hb hby at_97) (fun _ _ => ⟨rfl, rfl, (by decide : 6 + 1 ≤ _), (by decide : 56 + 4 ≤ _)⟩)
    dsimp only [Pt.U, Pt.locs, Pt.cells, Pt.slots] at X43 l43 y43 z43 st43 hQ43
    subst l43 y43 z43
    obtain ⟨rfl, Nq43, Kc43, g43, Vc43, hg43_0, hg43_1, hg43_2, hg43_3⟩ := hQ43
    have Nf := Fr.app Nf Nq43
    obtain ⟨b43, gq43⟩ : ∃ z, z = T42.heap.size := ⟨_, rfl⟩
    rw [← gq43] at Vc43 st43
    have ne_b37_b43 : b37 ≠ b43 := Nat.ne_of_lt (Nat.lt_of_lt_of_le E_b37.lt (Nat.le_of_eq gq43.symm))
    have ne_b42_b43 : b42 ≠ b43 := Nat.ne_of_lt (Nat.lt_of_lt_of_le V_b42.lt (Nat.le_of_eq gq43.symm))
    have g_b43 : n0 ≤ b43 := Nat.le_trans Zs (Nat.le_of_eq gq43.symm)
    have E_b37 := E_b37.keep Kc43
    have F_size_b37 := F_size_b37.keep Kc43 nin0
    have F_entries_b37 := F_entries_b37.keep Kc43 nin0
    have V_b42 := V_b42.keep Kc43 nin0
    have Zs := Nat.le_trans Zs Kc43.1
    have V_b43 := Vc43
    refine own_by (B := T43.setTop (mkF m 100 #[.val (.int i0), .val (.int i1), .val (.int i2), .val (.int i3), .val (.int i4), .val (.int i5), .val (.int (Int32.ofNat cap)), .val (.int (4 : Int32)), .val (.int (i5 &&& (1073741823 : Int32))), .val (.ref b37), .unset, .unset] [(.ref b43)])) (fun t k => st43.trans k) ?_
    refine own_by (B := T43.setTop (mkF m 102 #[.val (.int i0), .val (.int i1), .val (.int i2), .val (.int i3), .val (.int i4), .val (.int i5), .val (.int (Int32.ofNat cap)), .val (.int (4 : Int32)), .val (.int (i5 &&& (1073741823 : Int32))), .val (.ref b37), .val (.ref b43), .unset] [])) (fun t k => XS.astore X43.here hx rfl (hb hby at_100) rfl rfl (l' := #[.val (.int i0), .val (.int i1), .val (.int i2), .val (.int i3), .val (.int i4), .val (.int i5), .val (.int (Int32.ofNat cap)), .val (.int (4 : Int32)), .val (.int (i5 &&& (1073741823 : Int32))), .val (.ref b37), .val (.ref b43), .unset]) rfl k) ?_
    refine own_by (B := T43.setTop (mkF m 104 #[.val (.int i0), .val (.int i1), .val (.int i2), .val (.int i3), .val (.int i4), .val (.int i5), .val (.int (Int32.ofNat cap)), .val (.int (4 : Int32)), .val (.int (i5 &&& (1073741823 : Int32))), .val (.ref b37), .val (.ref b43), .unset] [(.ref b43)])) (fun t k => XS.aload X43.here hx rfl (hb hby at_102) rfl rfl k) ?_
    obtain ⟨cl44, Ar44, Sz44, Ng44, -⟩ := id V_b43
    refine own_by (B := T43.setTop (mkF m 105 #[.val (.int i0), .val (.int i1), .val (.int i2), .val (.int i3), .val (.int i4), .val (.int i5), .val (.int (Int32.ofNat cap)), .val (.int (4 : Int32)), .val (.int (i5 &&& (1073741823 : Int32))), .val (.ref b37), .val (.ref b43), .unset] [(.int (4 : Int32))])) (fun t k => X43.arraylength hx Ar44.1 (State.isArrayOf_alike hZ.alike Ar44.2.1) (g := (mkF m 104 #[.val (.int i0), .val (.int i1), .val (.int i2), .val (.int i3), .val (.int i4), .val (.int i5), .val (.int (Int32.ofNat cap)), .val (.int (4 : Int32)), .val (.int (i5 &&& (1073741823 : Int32))), .val (.ref b37), .val (.ref b43), .unset] [(.ref b43)])) rfl rfl (hb hby at_104) _ (by rw [len_of Sz44 Ng44]; exact k)) ?_
    refine own_by (B := T43.setTop (mkF m 107 #[.val (.int i0), .val (.int i1), .val (.int i2), .val (.int i3), .val (.int i4), .val (.int i5), .val (.int (Int32.ofNat cap)), .val (.int (4 : Int32)), .val (.int (i5 &&& (1073741823 : Int32))), .val (.ref b37), .val (.ref b43), .unset] [(.int (4 : Int32)), (.int (4 : Int32))])) (fun t k => XS.iload X43.here hx rfl (hb hby at_105) rfl k) ?_
    refine own_by (B := T43.setTop (mkF m 112 #[.val (.int i0), .val (.int i1), .val (.int i2), .val (.int i3), .val (.int i4), .val (.int i5), .val (.int (Int32.ofNat cap)), .val (.int (4 : Int32)), .val (.int (i5 &&& (1073741823 : Int32))), .val (.ref b37), .val (.ref b43), .unset] [])) (fun t k => XS.icmpYes X43.here hx rfl (pc0 := 107) (pc' := 112) rfl (hb hby at_107) rfl (teq (by decide)).1 (by decide) (by decide) k) ?_
    refine own_by (B := T43.setTop (mkF m 114 #[.val (.int i0), .val (.int i1), .val (.int i2), .val (.int i3), .val (.int i4), .val (.int i5), .val (.int (Int32.ofNat cap)), .val (.int (4 : Int32)), .val (.int (i5 &&& (1073741823 : Int32))), .val (.ref b37), .val (.ref b43), .unset] [(.int (4 : Int32))])) (fun t k => XS.iload X43.here hx rfl (hb hby at_112) rfl k) ?_
    refine own_by (B := T43.setTop (mkF m 117 #[.val (.int i0), .val (.int i1), .val (.int i2), .val (.int i3), .val (.int i4), .val (.int i5), .val (.int (Int32.ofNat cap)), .val (.int (4 : Int32)), .val (.int (i5 &&& (1073741823 : Int32))), .val (.ref b37), .val (.ref b43), .unset] [])) (fun t k => XS.ifNo X43.here hx rfl (hb hby at_114) rfl ((if0 _ _).trans (tlt (by decide)).2.2.2) k) ?_
    refine own_by (B := T43.setTop (mkF m 119 #[.val (.int i0), .val (.int i1), .val (.int i2), .val (.int i3), .val (.int i4), .val (.int i5), .val (.int (Int32.ofNat cap)), .val (.int (4 : Int32)), .val (.int (i5 &&& (1073741823 : Int32))), .val (.ref b37), .val (.ref b43), .unset] [(.ref b43)])) (fun t k => XS.aload X43.here hx rfl (hb hby at_117) rfl rfl k) ?_
    refine own_by (B := T43.setTop (mkF m 120 #[.val (.int i0), .val (.int i1), .val (.int i2), .val (.int i3), .val (.int i4), .val (.int i5), .val (.int (Int32.ofNat cap)), .val (.int (4 : Int32)), .val (.int (i5 &&& (1073741823 : Int32))), .val (.ref b37), .val (.ref b43), .unset] [(.int (0 : Int32)), (.ref b43)])) (fun t k => XS.iconst X43.here hx rfl (hb hby at_119) k) ?_
    obtain ⟨cl45, Ar45, hin45, hat45⟩ := V_b43.at (j := (0 : Int32)) ⟨by decide, by decide⟩
    have hat45 := hat45.trans (congrArg some (show _ = (.int i1) from hg43_0))
    refine own_by (B := T43.setTop (mkF m 121 #[.val (.int i0), .val (.int i1), .val (.int i2), .val (.int i3), .val (.int i4), .val (.int i5), .val (.int (Int32.ofNat cap)), .val (.int (4 : Int32)), .val (.int (i5 &&& (1073741823 : Int32))), .val (.ref b37), .val (.ref b43), .unset] [(.int i1)])) (fun t k => X43.iaload hx (j := (0 : Int32)) (v := (.int i1)) Ar45.1 (State.isArrayOf_alike hZ.alike Ar45.2.1) Ar45.2.2 hin45 hat45 (g := (mkF m 120 #[.val (.int i0), .val (.int i1), .val (.int i2), .val (.int i3), .val (.int i4), .val (.int i5), .val (.int (Int32.ofNat cap)), .val (.int (4 : Int32)), .val (.int (i5 &&& (1073741823 : Int32))), .val (.ref b37), .val (.ref b43), .unset] [(.int (0 : Int32)), (.ref b43)])) rfl rfl (hb hby at_120) _ k) ?_
    refine own_by (B := T43.setTop (mkF m 122 #[.val (.int i0), .val (.int i1), .val (.int i2), .val (.int i3), .val (.int i4), .val (.int i5), .val (.int (Int32.ofNat cap)), .val (.int (4 : Int32)), .val (.int (i5 &&& (1073741823 : Int32))), .val (.ref b37), .val (.ref b43), .unset] [(.int i1), (.int i1)])) (fun t k => XS.iloadN X43.here hx rfl (hb hby at_121) rfl k) ?_
    refine own_by (B := T43.setTop (mkF m 127 #[.val (.int i0), .val (.int i1), .val (.int i2), .val (.int i3), .val (.int i4), .val (.int i5), .val (.int (Int32.ofNat cap)), .val (.int (4 : Int32)), .val (.int (i5 &&& (1073741823 : Int32))), .val (.ref b37), .val (.ref b43), .unset] [])) (fun t k => XS.icmpYes X43.here hx rfl (pc0 := 122) (pc' := 127) rfl (hb hby at_122) rfl (teq rfl).1 (by decide) (by decide) k) ?_
    refine own_by (B := T43.setTop (mkF m 129 #[.val (.int i0), .val (.int i1), .val (.int i2), .val (.int i3), .val (.int i4), .val (.int i5), .val (.int (Int32.ofNat cap)), .val (.int (4 : Int32)), .val (.int (i5 &&& (1073741823 : Int32))), .val (.ref b37), .val (.ref b43), .unset] [(.int (4 : Int32))])) (fun t k => XS.iload X43.here hx rfl (hb hby at_127) rfl k) ?_
    refine own_by (B := T43.setTop (mkF m 130 #[.val (.int i0), .val (.int i1), .val (.int i2), .val (.int i3), .val (.int i4), .val (.int i5), .val (.int (Int32.ofNat cap)), .val (.int (4 : Int32)), .val (.int (i5 &&& (1073741823 : Int32))), .val (.ref b37), .val (.ref b43), .unset] [(.int (1 : Int32)), (.int (4 : Int32))])) (fun t k => XS.iconst X43.here hx rfl (hb hby at_129) k) ?_
    refine own_by (B := T43.setTop (mkF m 133 #[.val (.int i0), .val (.int i1), .val (.int i2), .val (.int i3), .val (.int i4), .val (.int i5), .val (.int (Int32.ofNat cap)), .val (.int (4 : Int32)), .val (.int (i5 &&& (1073741823 : Int32))), .val (.ref b37), .val (.ref b43), .unset] [])) (fun t k => XS.icmpNo X43.here hx rfl (hb hby at_130) rfl (tlt (by decide)).2.2.2 k) ?_
    refine own_by (B := T43.setTop (mkF m 135 #[.val (.int i0), .val (.int i1), .val (.int i2), .val (.int i3), .val (.int i4), .val (.int i5), .val (.int (Int32.ofNat cap)), .val (.int (4 : Int32)), .val (.int (i5 &&& (1073741823 : Int32))), .val (.ref b37), .val (.ref b43), .unset] [(.ref b43)])) (fun t k => XS.aload X43.here hx rfl (hb hby at_133) rfl rfl k) ?_
    refine own_by (B := T43.setTop (mkF m 136 #[.val (.int i0), .val (.int i1), .val (.int i2), .val (.int i3), .val (.int i4), .val (.int i5), .val (.int (Int32.ofNat cap)), .val (.int (4 : Int32)), .val (.int (i5 &&& (1073741823 : Int32))), .val (.ref b37), .val (.ref b43), .unset] [(.int (1 : Int32)), (.ref b43)])) (fun t k => XS.iconst X43.here hx rfl (hb hby at_135) k) ?_
    obtain ⟨cl46, Ar46, hin46, hat46⟩ := V_b43.at (j := (1 : Int32)) ⟨by decide, by decide⟩
    have hat46 := hat46.trans (congrArg some (show _ = (.int i2) from hg43_1))
    refine own_by (B := T43.setTop (mkF m 137 #[.val (.int i0), .val (.int i1), .val (.int i2), .val (.int i3), .val (.int i4), .val (.int i5), .val (.int (Int32.ofNat cap)), .val (.int (4 : Int32)), .val (.int (i5 &&& (1073741823 : Int32))), .val (.ref b37), .val (.ref b43), .unset] [(.int i2)])) (fun t k => X43.iaload hx (j := (1 : Int32)) (v := (.int i2)) Ar46.1 (State.isArrayOf_alike hZ.alike Ar46.2.1) Ar46.2.2 hin46 hat46 (g := (mkF m 136 #[.val (.int i0), .val (.int i1), .val (.int i2), .val (.int i3), .val (.int i4), .val (.int i5), .val (.int (Int32.ofNat cap)), .val (.int (4 : Int32)), .val (.int (i5 &&& (1073741823 : Int32))), .val (.ref b37), .val (.ref b43), .unset] [(.int (1 : Int32)), (.ref b43)])) rfl rfl (hb hby at_136) _ k) ?_
    refine own_by (B := T43.setTop (mkF m 138 #[.val (.int i0), .val (.int i1), .val (.int i2), .val (.int i3), .val (.int i4), .val (.int i5), .val (.int (Int32.ofNat cap)), .val (.int (4 : Int32)), .val (.int (i5 &&& (1073741823 : Int32))), .val (.ref b37), .val (.ref b43), .unset] [(.int i2), (.int i2)])) (fun t k => XS.iloadN X43.here hx rfl (hb hby at_137) rfl k) ?_
    refine own_by (B := T43.setTop (mkF m 143 #[.val (.int i0), .val (.int i1), .val (.int i2), .val (.int i3), .val (.int i4), .val (.int i5), .val (.int (Int32.ofNat cap)), .val (.int (4 : Int32)), .val (.int (i5 &&& (1073741823 : Int32))), .val (.ref b37), .val (.ref b43), .unset] [])) (fun t k => XS.icmpYes X43.here hx rfl (pc0 := 138) (pc' := 143) rfl (hb hby at_138) rfl (teq rfl).1 (by decide) (by decide) k) ?_
    refine own_by (B := T43.setTop (mkF m 145 #[.val (.int i0), .val (.int i1), .val (.int i2), .val (.int i3), .val (.int i4), .val (.int i5), .val (.int (Int32.ofNat cap)), .val (.int (4 : Int32)), .val (.int (i5 &&& (1073741823 : Int32))), .val (.ref b37), .val (.ref b43), .unset] [(.int (4 : Int32))])) (fun t k => XS.iload X43.here hx rfl (hb hby at_143) rfl k) ?_
    refine own_by (B := T43.setTop (mkF m 146 #[.val (.int i0), .val (.int i1), .val (.int i2), .val (.int i3), .val (.int i4), .val (.int i5), .val (.int (Int32.ofNat cap)), .val (.int (4 : Int32)), .val (.int (i5 &&& (1073741823 : Int32))), .val (.ref b37), .val (.ref b43), .unset] [(.int (2 : Int32)), (.int (4 : Int32))])) (fun t k => XS.iconst X43.here hx rfl (hb hby at_145) k) ?_
    refine own_by (B := T43.setTop (mkF m 149 #[.val (.int i0), .val (.int i1), .val (.int i2), .val (.int i3), .val (.int i4), .val (.int i5), .val (.int (Int32.ofNat cap)), .val (.int (4 : Int32)), .val (.int (i5 &&& (1073741823 : Int32))), .val (.ref b37), .val (.ref b43), .unset] [])) (fun t k => XS.icmpNo X43.here hx rfl (hb hby at_146) rfl (tlt (by decide)).2.2.2 k) ?_
    refine own_by (B := T43.setTop (mkF m 151 #[.val (.int i0), .val (.int i1), .val (.int i2), .val (.int i3), .val (.int i4), .val (.int i5), .val (.int (Int32.ofNat cap)), .val (.int (4 : Int32)), .val (.int (i5 &&& (1073741823 : Int32))), .val (.ref b37), .val (.ref b43), .unset] [(.ref b43)])) (fun t k => XS.aload X43.here hx rfl (hb hby at_149) rfl rfl k) ?_
    refine own_by (B := T43.setTop (mkF m 152 #[.val (.int i0), .val (.int i1), .val (.int i2), .val (.int i3), .val (.int i4), .val (.int i5), .val (.int (Int32.ofNat cap)), .val (.int (4 : Int32)), .val (.int (i5 &&& (1073741823 : Int32))), .val (.ref b37), .val (.ref b43), .unset] [(.int (2 : Int32)), (.ref b43)])) (fun t k => XS.iconst X43.here hx rfl (hb hby at_151) k) ?_
    obtain ⟨cl47, Ar47, hin47, hat47⟩ := V_b43.at (j := (2 : Int32)) ⟨by decide, by decide⟩
    have hat47 := hat47.trans (congrArg some (show _ = (.int i3) from hg43_2))
    refine own_by (B := T43.setTop (mkF m 153 #[.val (.int i0), .val (.int i1), .val (.int i2), .val (.int i3), .val (.int i4), .val (.int i5), .val (.int (Int32.ofNat cap)), .val (.int (4 : Int32)), .val (.int (i5 &&& (1073741823 : Int32))), .val (.ref b37), .val (.ref b43), .unset] [(.int i3)])) (fun t k => X43.iaload hx (j := (2 : Int32)) (v := (.int i3)) Ar47.1 (State.isArrayOf_alike hZ.alike Ar47.2.1) Ar47.2.2 hin47 hat47 (g := (mkF m 152 #[.val (.int i0), .val (.int i1), .val (.int i2), .val (.int i3), .val (.int i4), .val (.int i5), .val (.int (Int32.ofNat cap)), .val (.int (4 : Int32)), .val (.int (i5 &&& (1073741823 : Int32))), .val (.ref b37), .val (.ref b43), .unset] [(.int (2 : Int32)), (.ref b43)])) rfl rfl (hb hby at_152) _ k) ?_
    refine own_by (B := T43.setTop (mkF m 154 #[.val (.int i0), .val (.int i1), .val (.int i2), .val (.int i3), .val (.int i4), .val (.int i5), .val (.int (Int32.ofNat cap)), .val (.int (4 : Int32)), .val (.int (i5 &&& (1073741823 : Int32))), .val (.ref b37), .val (.ref b43), .unset] [(.int i3), (.int i3)])) (fun t k => XS.iloadN X43.here hx rfl (hb hby at_153) rfl k) ?_
    refine own_by (B := T43.setTop (mkF m 159 #[.val (.int i0), .val (.int i1), .val (.int i2), .val (.int i3), .val (.int i4), .val (.int i5), .val (.int (Int32.ofNat cap)), .val (.int (4 : Int32)), .val (.int (i5 &&& (1073741823 : Int32))), .val (.ref b37), .val (.ref b43), .unset] [])) (fun t k => XS.icmpYes X43.here hx rfl (pc0 := 154) (pc' := 159) rfl (hb hby at_154) rfl (teq rfl).1 (by decide) (by decide) k) ?_
    refine own_by (B := T43.setTop (mkF m 161 #[.val (.int i0), .val (.int i1), .val (.int i2), .val (.int i3), .val (.int i4), .val (.int i5), .val (.int (Int32.ofNat cap)), .val (.int (4 : Int32)), .val (.int (i5 &&& (1073741823 : Int32))), .val (.ref b37), .val (.ref b43), .unset] [(.int (4 : Int32))])) (fun t k => XS.iload X43.here hx rfl (hb hby at_159) rfl k) ?_
    refine own_by (B := T43.setTop (mkF m 162 #[.val (.int i0), .val (.int i1), .val (.int i2), .val (.int i3), .val (.int i4), .val (.int i5), .val (.int (Int32.ofNat cap)), .val (.int (4 : Int32)), .val (.int (i5 &&& (1073741823 : Int32))), .val (.ref b37), .val (.ref b43), .unset] [(.int (3 : Int32)), (.int (4 : Int32))])) (fun t k => XS.iconst X43.here hx rfl (hb hby at_161) k) ?_
    refine own_by (B := T43.setTop (mkF m 165 #[.val (.int i0), .val (.int i1), .val (.int i2), .val (.int i3), .val (.int i4), .val (.int i5), .val (.int (Int32.ofNat cap)), .val (.int (4 : Int32)), .val (.int (i5 &&& (1073741823 : Int32))), .val (.ref b37), .val (.ref b43), .unset] [])) (fun t k => XS.icmpNo X43.here hx rfl (hb hby at_162) rfl (tlt (by decide)).2.2.2 k) ?_
    refine own_by (B := T43.setTop (mkF m 167 #[.val (.int i0), .val (.int i1), .val (.int i2), .val (.int i3), .val (.int i4), .val (.int i5), .val (.int (Int32.ofNat cap)), .val (.int (4 : Int32)), .val (.int (i5 &&& (1073741823 : Int32))), .val (.ref b37), .val (.ref b43), .unset] [(.ref b43)])) (fun t k => XS.aload X43.here hx rfl (hb hby at_165) rfl rfl k) ?_
    refine own_by (B := T43.setTop (mkF m 168 #[.val (.int i0), .val (.int i1), .val (.int i2), .val (.int i3), .val (.int i4), .val (.int i5), .val (.int (Int32.ofNat cap)), .val (.int (4 : Int32)), .val (.int (i5 &&& (1073741823 : Int32))), .val (.ref b37), .val (.ref b43), .unset] [(.int (3 : Int32)), (.ref b43)])) (fun t k => XS.iconst X43.here hx rfl (hb hby at_167) k) ?_
    obtain ⟨cl48, Ar48, hin48, hat48⟩ := V_b43.at (j := (3 : Int32)) ⟨by decide, by decide⟩
    have hat48 := hat48.trans (congrArg some (show _ = (.int i4) from hg43_3))
    refine own_by (B := T43.setTop (mkF m 169 #[.val (.int i0), .val (.int i1), .val (.int i2), .val (.int i3), .val (.int i4), .val (.int i5), .val (.int (Int32.ofNat cap)), .val (.int (4 : Int32)), .val (.int (i5 &&& (1073741823 : Int32))), .val (.ref b37), .val (.ref b43), .unset] [(.int i4)])) (fun t k => X43.iaload hx (j := (3 : Int32)) (v := (.int i4)) Ar48.1 (State.isArrayOf_alike hZ.alike Ar48.2.1) Ar48.2.2 hin48 hat48 (g := (mkF m 168 #[.val (.int i0), .val (.int i1), .val (.int i2), .val (.int i3), .val (.int i4), .val (.int i5), .val (.int (Int32.ofNat cap)), .val (.int (4 : Int32)), .val (.int (i5 &&& (1073741823 : Int32))), .val (.ref b37), .val (.ref b43), .unset] [(.int (3 : Int32)), (.ref b43)])) rfl rfl (hb hby at_168) _ k) ?_
    refine own_by (B := T43.setTop (mkF m 171 #[.val (.int i0), .val (.int i1), .val (.int i2), .val (.int i3), .val (.int i4), .val (.int i5), .val (.int (Int32.ofNat cap)), .val (.int (4 : Int32)), .val (.int (i5 &&& (1073741823 : Int32))), .val (.ref b37), .val (.ref b43), .unset] [(.int i4), (.int i4)])) (fun t k => XS.iload X43.here hx rfl (hb hby at_169) rfl k) ?_
    refine own_by (B := T43.setTop (mkF m 176 #[.val (.int i0), .val (.int i1), .val (.int i2), .val (.int i3), .val (.int i4), .val (.int i5), .val (.int (Int32.ofNat cap)), .val (.int (4 : Int32)), .val (.int (i5 &&& (1073741823 : Int32))), .val (.ref b37), .val (.ref b43), .unset] [])) (fun t k => XS.icmpYes X43.here hx rfl (pc0 := 171) (pc' := 176) rfl (hb hby at_171) rfl (teq rfl).1 (by decide) (by decide) k) ?_
    refine own_by (B := T43.setTop (mkF m 178 #[.val (.int i0), .val (.int i1), .val (.int i2), .val (.int i3), .val (.int i4), .val (.int i5), .val (.int (Int32.ofNat cap)), .val (.int (4 : Int32)), .val (.int (i5 &&& (1073741823 : Int32))), .val (.ref b37), .val (.ref b43), .unset] [(.ref b37)])) (fun t k => XS.aload X43.here hx rfl (hb hby at_176) rfl rfl k) ?_
    obtain ⟨cq49, kq49, q49a, q49b, q49c⟩ := isOf hZ rfl E_b37
    obtain ⟨_, _, ⟨T49, L49, k49, n49⟩, -, X49, ⟨Lc49, hQ49, l49, y49, z49⟩, st49⟩ := X43.virtualBack hx (y := (⟨"com/example/surrogate/surrogate/index/Entries", "frequencies", "()[I"⟩ : MethodName)) (z := (⟨"com/example/surrogate/surrogate/index/Entries", "frequencies", "()[I"⟩ : MethodName)) hown (mvT hZ (hw _ (List.mem_of_getElem? (i := 13) rfl))) (mvT hZ (hw _ (List.mem_of_getElem? (i := 14) rfl))) (notFace_of_selects (args := #[]) (mvT hZ (hw _ (List.mem_of_getElem? (i := 16) rfl)))) (mvT hZ (hw _ (List.mem_of_getElem? (i := 16) rfl))) (mvT hZ (hw _ (List.mem_of_getElem? (i := 15) rfl))) (by decide) (backOf (W := 0) (rmF4 l Z a0 hw [] b37 b42 mz42 f42 i1 i2 i3 i4 T43.heap n0 Zs F_size_b37 F_entries_b37 V_b42 ne_b37_b42 (by omega) (by omega) hB42_0 hB42_1 hB42_2 hB42_3) hZ (hw _ (List.mem_of_getElem? (i := 17) rfl)) (hw _ (List.mem_of_getElem? (i := 3) rfl)) (by decide) (by decide)) q49a q49c (g := (mkF m 178 #[.val (.int i0), .val (.int i1), .val (.int i2), .val (.int i3), .val (.int i4), .val (.int i5), .val (.int (Int32.ofNat cap)), .val (.int (4 : Int32)), .val (.int (i5 &&& (1073741823 : Int32))), .val (.ref b37), .val (.ref b43), .unset] [(.ref b37)])) rfl (by rw [hml]; rfl) (Steps.refl _) (argsL := []) (rest := []) (lenOf own_pd3 rfl) rfl (by show 2 * 0 + _ ≤ _; exact Nat.le_of_eq rfl) (hb hby at_178) (fun _ _ => ⟨rfl, rfl, (by decide : 7 + 1 ≤ _), (by decide : 60 + 4 ≤ _)⟩)
    dsimp only [Pt.U, Pt.locs, Pt.cells, Pt.slots] at X49 l49 y49 z49 st49 hQ49
    subst l49 y49 z49
    obtain ⟨rfl, Nq49, Kc49, g49, Vc49, hg49_0, hg49_1, hg49_2, hg49_3⟩ := hQ49
    have Nf := Fr.app Nf Nq49
    obtain ⟨b49, gq49⟩ : ∃ z, z = T43.heap.size := ⟨_, rfl⟩
    rw [← gq49] at Vc49 st49
    have ne_b37_b49 : b37 ≠ b49 := Nat.ne_of_lt (Nat.lt_of_lt_of_le E_b37.lt (Nat.le_of_eq gq49.symm))
    have ne_b42_b49 : b42 ≠ b49 := Nat.ne_of_lt (Nat.lt_of_lt_of_le V_b42.lt (Nat.le_of_eq gq49.symm))
    have ne_b43_b49 : b43 ≠ b49 := Nat.ne_of_lt (Nat.lt_of_lt_of_le V_b43.lt (Nat.le_of_eq gq49.symm))
    have g_b49 : n0 ≤ b49 := Nat.le_trans Zs (Nat.le_of_eq gq49.symm)
    have E_b37 := E_b37.keep Kc49
    have F_size_b37 := F_size_b37.keep Kc49 nin0
    have F_entries_b37 := F_entries_b37.keep Kc49 nin0
    have V_b42 := V_b42.keep Kc49 nin0
    have V_b43 := V_b43.keep Kc49 nin0
    have Zs := Nat.le_trans Zs Kc49.1
    have V_b49 := Vc49
    refine own_by (B := T49.setTop (mkF m 181 #[.val (.int i0), .val (.int i1), .val (.int i2), .val (.int i3), .val (.int i4), .val (.int i5), .val (.int (Int32.ofNat cap)), .val (.int (4 : Int32)), .val (.int (i5 &&& (1073741823 : Int32))), .val (.ref b37), .val (.ref b43), .unset] [(.ref b49)])) (fun t k => st49.trans k) ?_
    refine own_by (B := T49.setTop (mkF m 183 #[.val (.int i0), .val (.int i1), .val (.int i2), .val (.int i3), .val (.int i4), .val (.int i5), .val (.int (Int32.ofNat cap)), .val (.int (4 : Int32)), .val (.int (i5 &&& (1073741823 : Int32))), .val (.ref b37), .val (.ref b43), .val (.ref b49)] [])) (fun t k => XS.astore X49.here hx rfl (hb hby at_181) rfl rfl (l' := #[.val (.int i0), .val (.int i1), .val (.int i2), .val (.int i3), .val (.int i4), .val (.int i5), .val (.int (Int32.ofNat cap)), .val (.int (4 : Int32)), .val (.int (i5 &&& (1073741823 : Int32))), .val (.ref b37), .val (.ref b43), .val (.ref b49)]) rfl k) ?_
    refine own_by (B := T49.setTop (mkF m 185 #[.val (.int i0), .val (.int i1), .val (.int i2), .val (.int i3), .val (.int i4), .val (.int i5), .val (.int (Int32.ofNat cap)), .val (.int (4 : Int32)), .val (.int (i5 &&& (1073741823 : Int32))), .val (.ref b37), .val (.ref b43), .val (.ref b49)] [(.ref b49)])) (fun t k => XS.aload X49.here hx rfl (hb hby at_183) rfl rfl k) ?_
    refine own_by (B := T49.setTop (mkF m 187 #[.val (.int i0), .val (.int i1), .val (.int i2), .val (.int i3), .val (.int i4), .val (.int i5), .val (.int (Int32.ofNat cap)), .val (.int (4 : Int32)), .val (.int (i5 &&& (1073741823 : Int32))), .val (.ref b37), .val (.ref b43), .val (.ref b49)] [(.ref b43), (.ref b49)])) (fun t k => XS.aload X49.here hx rfl (hb hby at_185) rfl rfl k) ?_
    refine own_by (B := T49.setTop (mkF m 192 #[.val (.int i0), .val (.int i1), .val (.int i2), .val (.int i3), .val (.int i4), .val (.int i5), .val (.int (Int32.ofNat cap)), .val (.int (4 : Int32)), .val (.int (i5 &&& (1073741823 : Int32))), .val (.ref b37), .val (.ref b43), .val (.ref b49)] [])) (fun t k => Jvm.RoadKit.acmp (g := (mkF m 187 #[.val (.int i0), .val (.int i1), .val (.int i2), .val (.int i3), .val (.int i4), .val (.int i5), .val (.int (Int32.ofNat cap)), .val (.int (4 : Int32)), .val (.int (i5 &&& (1073741823 : Int32))), .val (.ref b37), .val (.ref b43), .val (.ref b49)] [(.ref b43), (.ref b49)])) X49 hx rfl rfl rfl (pc0 := 187) (pc' := 192) (same := false) rfl (hb hby at_187) rfl (decide_eq_false fun q => (Ne.symm ne_b43_b49) (Value.ref.inj q)) (by decide) (by decide) k) ?_
    refine own_by (B := T49.setTop (mkF m 194 #[.val (.int i0), .val (.int i1), .val (.int i2), .val (.int i3), .val (.int i4), .val (.int i5), .val (.int (Int32.ofNat cap)), .val (.int (4 : Int32)), .val (.int (i5 &&& (1073741823 : Int32))), .val (.ref b37), .val (.ref b43), .val (.ref b49)] [(.ref b49)])) (fun t k => XS.aload X49.here hx rfl (hb hby at_192) rfl rfl k) ?_
    obtain ⟨cl50, Ar50, Sz50, Ng50, -⟩ := id V_b49
    refine own_by (B := T49.setTop (mkF m 195 #[.val (.int i0), .val (.int i1), .val (.int i2), .val (.int i3), .val (.int i4), .val (.int i5), .val (.int (Int32.ofNat cap)), .val (.int (4 : Int32)), .val (.int (i5 &&& (1073741823 : Int32))), .val (.ref b37), .val (.ref b43), .val (.ref b49)] [(.int (4 : Int32))])) (fun t k => X49.arraylength hx Ar50.1 (State.isArrayOf_alike hZ.alike Ar50.2.1) (g := (mkF m 194 #[.val (.int i0), .val (.int i1), .val (.int i2), .val (.int i3), .val (.int i4), .val (.int i5), .val (.int (Int32.ofNat cap)), .val (.int (4 : Int32)), .val (.int (i5 &&& (1073741823 : Int32))), .val (.ref b37), .val (.ref b43), .val (.ref b49)] [(.ref b49)])) rfl rfl (hb hby at_194) _ (by rw [len_of Sz50 Ng50]; exact k)) ?_
    refine own_by (B := T49.setTop (mkF m 197 #[.val (.int i0), .val (.int i1), .val (.int i2), .val (.int i3), .val (.int i4), .val (.int i5), .val (.int (Int32.ofNat cap)), .val (.int (4 : Int32)), .val (.int (i5 &&& (1073741823 : Int32))), .val (.ref b37), .val (.ref b43), .val (.ref b49)] [(.int (4 : Int32)), (.int (4 : Int32))])) (fun t k => XS.iload X49.here hx rfl (hb hby at_195) rfl k) ?_
    refine own_by (B := T49.setTop (mkF m 202 #[.val (.int i0), .val (.int i1), .val (.int i2), .val (.int i3), .val (.int i4), .val (.int i5), .val (.int (Int32.ofNat cap)), .val (.int (4 : Int32)), .val (.int (i5 &&& (1073741823 : Int32))), .val (.ref b37), .val (.ref b43), .val (.ref b49)] [])) (fun t k => XS.icmpYes X49.here hx rfl (pc0 := 197) (pc' := 202) rfl (hb hby at_197) rfl (teq (by decide)).1 (by decide) (by decide) k) ?_
    refine own_by (B := T49.setTop (mkF m 203 #[.val (.int i0), .val (.int i1), .val (.int i2), .val (.int i3), .val (.int i4), .val (.int i5), .val (.int (Int32.ofNat cap)), .val (.int (4 : Int32)), .val (.int (i5 &&& (1073741823 : Int32))), .val (.ref b37), .val (.ref b43), .val (.ref b49)] [(.int (1 : Int32))])) (fun t k => XS.iconst X49.here hx rfl (hb hby at_202) k) ?_
    exact own_end X49 (v := some (.int (1 : Int32))) (fun h => by rw [Bd.returns] at h; cases h) (BodyLoose.notSynchronized Bd) (Q := (Q_rm0 Z i0 i1 i2 i3 i4 i5 h0 n0)) (fun fs hr => retN X49 hx (t := .boolean) Bd.returns (by simp) (hb hby at_203) hr) (show (Q_rm0 Z i0 i1 i2 i3 i4 i5 h0 n0) _ T49.heap _ from (⟨rfl, Nf⟩)) (by decide) (by decide)
set_option maxRecDepth 65536 in
set_option maxHeartbeats 40000000 in
theorem comes_1 {Post : Tables → Env → Array Value → State → Outcome → State → Prop} (hpost : ∀ tb e args s v u, (limb_1_1.after args s (.returned v) u = true ∧ limb_1_2.after args s (.returned v) u = true ∧ True) → FrameEnd s (.returned v) u (Jvm.fieldLocs frame_1_writes args s ++ Jvm.arrayLocs frame_1_arrays args s ++ Jvm.staticLocs frame_1_statics s) 24 128 → Post tb e args s (.returned v) u) :
    ArmFor flags0 classFile x code maxLocals ret World_1 tables_1 room_1 Calls_1 rest_1 Pre_1 Post := by
  intro l hfl _ _ p e ha hc hk s m args below hf hA hF happ hP
  obtain ⟨hcalls, hrest, hpre⟩ := hP
  obtain ⟨-, -, -, hnamed, -, -, -, hat⟩ := (Spec.applies_iff hf).mp happ
  obtain ⟨hg, hn⟩ := and_e (Cond.before_iff.mp (show (Jvm.Cond.and given_1 narrow_1).before args s = true from hpre))
  obtain ⟨hcount, hg0⟩ := and_e hg
  obtain ⟨hv0, hg1⟩ := and_e hg0
  obtain ⟨hv1, hg2⟩ := and_e hg1
  obtain ⟨hv2, hg3⟩ := and_e hg2
  obtain ⟨hv3, hg4⟩ := and_e hg3
  obtain ⟨hv4, hg5⟩ := and_e hg4
  have hv5 := hg5
  obtain ⟨w0, w1, w2, w3, w4, w5, rfl⟩ : ∃ w0 w1 w2 w3 w4 w5 : Value, args = #[w0, w1, w2, w3, w4, w5] := by
    have hs : args.size = 6 := by simpa [Cond.value, given_1] using hcount
    obtain ⟨L⟩ := args
    match L, hs with
    | [w0, w1, w2, w3, w4, w5], _ => exact ⟨w0, w1, w2, w3, w4, w5, rfl⟩
  have hw := fun d (hd : d ∈ tables_1) => atoms_spec (ws := Jvm.Cond.code x code maxLocals ret :: tables_1) hat d (List.mem_cons_of_mem _ hd)
  have hfit : Fit s := fun {y c} hc i hi => by
    obtain ⟨ha, rfl⟩ := Array.getElem?_eq_some_iff.mp hc
    have q := List.all_eq_true.mp ((Array.all_eq_true_iff_forall_mem.mp hF) _ (Array.getElem_mem ha)) i (List.mem_range.mpr hi)
    simpa [Array.getElem?_eq_getElem hi] using q
  obtain ⟨i0, ei0⟩ := is_v hv0
  obtain rfl : w0 = (.int i0) := Option.some.inj ei0
  obtain ⟨i1, ei1⟩ := is_v hv1
  obtain rfl : w1 = (.int i1) := Option.some.inj ei1
  obtain ⟨i2, ei2⟩ := is_v hv2
  obtain rfl : w2 = (.int i2) := Option.some.inj ei2
  obtain ⟨i3, ei3⟩ := is_v hv3
  obtain rfl : w3 = (.int i3) := Option.some.inj ei3
  obtain ⟨i4, ei4⟩ := is_v hv4
  obtain rfl : w4 = (.int i4) := Option.some.inj ei4
  obtain ⟨i5, ei5⟩ := is_v hv5
  obtain rfl : w5 = (.int i5) := Option.some.inj ei5
  obtain ⟨n, o, h1, h2, h3, _, L, rfl, ⟨rfl, N⟩, hq⟩ := rm0 l s _ hw tables_1 i0 i1 i2 i3 i4 i5 s.heap s.heap.size (Nat.le_refl _)  p e ha hc hk s m _ below hf ((Spec.applies_iff_loose hf).mp happ).1 ⟨rfl, State.Warmed39.refl s, rfl⟩ trivial
  refine ⟨n, _, h1, h2, h3, hpost _ _ _ _ _ _ ⟨Cond.after_iff.mpr rfl, Cond.after_iff.mpr (eq_i res_at (Term.int_eval (1)) rfl), trivial⟩ ⟨hq.1, hq.2.1, (hq.2.2.sift fun y hy => Or.inr (N y hy)).mono (by decide) (by decide)⟩⟩
theorem main_1_1 : Claimed_1_1 := comes_1 fun _ _ _ _ _ _ h hF => ⟨h.1, hF⟩
theorem main_1_2 : Claimed_1_2 := comes_1 fun _ _ _ _ _ _ h hF => ⟨h.2.1, hF⟩
end Jvm.Pilot.@@N@@
namespace Jvm.Pilot.@@N@@
open Jvm Jvm.ClassFile Sem Op Lib Jvm.Free Jvm.Stand Jvm.Pilot.@@N@@.Jvm.D
/-! MADE BY PROGRAM (witnessworld.py) out of the Statement's table words and the real class files: 12 classes; the members and pool entries that the words name. The judged class is class 1, her method 1. -/
namespace start1
open Jvm.ClassFile
def u (s : String) : CpInfo := .utf8 (stringToUtf16 s)
/-- a pool by its gaps: so many unusable entries, then the entry; so many at the end -/
def gap : Nat → List CpInfo → List CpInfo
  | 0, r => r
  | n + 1, r => .unusable :: gap n r
def poolList (es : List (Nat × CpInfo)) (last : Nat) : List CpInfo := es.foldr (fun e r => gap e.1 (e.2 :: r)) (gap last [])
def pool (es : List (Nat × CpInfo)) (last : Nat) : Array CpInfo := ⟨poolList es last⟩
def fileOf (pool : Array CpInfo) (this : Nat) (attrs : Array Attribute := #[]) (ms : Array MethodInfo := #[]) (fl : Nat := 33) (sup : Nat := 0) (ifs : Array Nat := #[]) (fds : Array FieldInfo := #[]) : ClassFile where
  minorVersion := 0
  majorVersion := 65
  constantPool := pool
  accessFlags := fl
  thisClass := this
  superClass := sup
  interfaces := ifs
  fields := fds
  methods := ms
  attributes := attrs
def plain (name : String) (sup : Option ClassId) : Class where
  name := name
  kind := .ordinary
  loader := none
  accessFlags := 33
  super := sup
  interfaces := #[]
  cf := none
  fields := #[]
  methods := #[]
  instanceTypes := #[]
  staticTypes := #[]
  resolved := #[]
  callSites := []
  init := .initialized
  statics := none
  mirror := none

def pool0 : Array CpInfo := pool [(5, u "<init>"), (0, u "()V"), (1, .class_ 10), (1, u "java/lang/Object")] 113

def k0c0 : Code := { maxStack := 0, maxLocals := 1, code := object_method_1_code, exceptionTable := #[], attributes := #[] }
def k0m0 : Method := { name := "<init>", desc := "()V", sig := { parameters := [], returnType := none }, accessFlags := 1, code := some k0c0 }
/-- java/lang/Object -/
def k0 : Class := { plain "java/lang/Object" none with
  accessFlags := 33
  interfaces := #[]
  cf := some (fileOf pool0 8 #[] #[{ accessFlags := 1, nameIndex := 5, descriptorIndex := 6, attributes := #[] }] 33 0 #[] #[])
  fields := #[]
  methods := #[k0m0]
  instanceTypes := #[]
  staticTypes := #[]
  resolved := Array.replicate 124 none
  statics := none }

def pool1 : Array CpInfo := pool [(2, .class_ 4), (1, u "java/lang/Object"), (0, u "<init>"), (0, u "()V"), (0, .integer 1073741823), (0, .class_ 9), (0, u "com/example/surrogate/surrogate/index/Entries"), (0, .methodref 8 11), (0, .nameAndType 5 12), (0, u "(I)V"), (0, .methodref 8 14), (0, .nameAndType 15 16), (0, u "add"), (0, u "(II)V"), (0, .methodref 8 18), (0, .nameAndType 19 20), (0, u "frequencies"), (0, u "()[I"), (0, .class_ 22), (0, u "com/example/surrogate/surrogate/index/EntriesFrequenciesPinLaw"), (2, u "law"), (0, u "(IIIIII)Z")] 5

def k1m0 : Method := { name := "<init>", desc := "()V", sig := { parameters := [], returnType := none }, accessFlags := 1, code := none }
def k1c1 : Code := { maxStack := 3, maxLocals := 12, code := code, exceptionTable := #[], attributes := #[] }
def k1m1 : Method := { name := "law", desc := "(IIIIII)Z", sig := { parameters := [.int, .int, .int, .int, .int, .int], returnType := some .boolean }, accessFlags := 9, code := some k1c1 }
/-- com/example/surrogate/surrogate/index/EntriesFrequenciesPinLaw -/
def k1 : Class := { plain "com/example/surrogate/surrogate/index/EntriesFrequenciesPinLaw" (some 0) with
  accessFlags := 49
  interfaces := #[]
  cf := some (fileOf pool1 21 #[] #[{ accessFlags := 1, nameIndex := 5, descriptorIndex := 6, attributes := #[] }, { accessFlags := 9, nameIndex := 25, descriptorIndex := 26, attributes := #[] }] 49 2 #[] #[])
  fields := #[]
  methods := #[k1m0, k1m1]
  instanceTypes := #[]
  staticTypes := #[]
  resolved := Array.replicate 32 none
  statics := none }

def pool2 : Array CpInfo := pool [(2, .class_ 4), (1, u "com/example/surrogate/surrogate/index/Entries"), (0, u "<init>"), (0, u "(I)V"), (0, .methodref 8 9), (0, .class_ 10), (0, .nameAndType 5 11), (0, u "java/lang/Object"), (0, u "()V"), (0, .fieldref 2 13), (0, .nameAndType 14 15), (0, u "entries"), (0, u "[I"), (0, .fieldref 2 17), (0, .nameAndType 18 19), (0, u "size"), (0, u "I"), (0, .methodref 21 22), (0, .class_ 23), (0, .nameAndType 24 25), (0, u "java/lang/Math"), (0, u "max"), (0, u "(II)I"), (0, .methodref 27 28), (0, .class_ 29), (0, .nameAndType 30 31), (0, u "java/util/Arrays"), (0, u "copyOf"), (0, u "([II)[I"), (8, u "add"), (0, u "(II)V"), (6, u "()[I"), (1, u "frequencies")] 7

def k2m0 : Method := { name := "<init>", desc := "()V", sig := { parameters := [], returnType := none }, accessFlags := 0, code := none }
def k2c1 : Code := { maxStack := 3, maxLocals := 2, code := prog_20_method_2_code, exceptionTable := #[], attributes := #[] }
def k2m1 : Method := { name := "<init>", desc := "(I)V", sig := { parameters := [.int], returnType := none }, accessFlags := 0, code := some k2c1 }
def k2c2 : Code := { maxStack := 5, maxLocals := 3, code := prog_20_method_3_code, exceptionTable := #[], attributes := #[] }
def k2m2 : Method := { name := "add", desc := "(II)V", sig := { parameters := [.int, .int], returnType := none }, accessFlags := 0, code := some k2c2 }
def k2c3 : Code := { maxStack := 5, maxLocals := 3, code := prog_20_method_8_code, exceptionTable := #[], attributes := #[] }
def k2m3 : Method := { name := "frequencies", desc := "()[I", sig := { parameters := [], returnType := some (.array .int) }, accessFlags := 0, code := some k2c3 }
/-- com/example/surrogate/surrogate/index/Entries -/
def k2 : Class := { plain "com/example/surrogate/surrogate/index/Entries" (some 0) with
  accessFlags := 48
  interfaces := #[]
  cf := some (fileOf pool2 2 #[] #[{ accessFlags := 0, nameIndex := 5, descriptorIndex := 11, attributes := #[] }, { accessFlags := 0, nameIndex := 5, descriptorIndex := 6, attributes := #[] }, { accessFlags := 0, nameIndex := 40, descriptorIndex := 41, attributes := #[] }, { accessFlags := 0, nameIndex := 50, descriptorIndex := 48, attributes := #[] }] 48 8 #[] #[{ accessFlags := 2, nameIndex := 14, descriptorIndex := 15, attributes := #[] }, { accessFlags := 2, nameIndex := 18, descriptorIndex := 19, attributes := #[] }])
  fields := #[{ name := "entries", type := (.array .int), accessFlags := 2, slot := 0, constantValue := 0 }, { name := "size", type := .int, accessFlags := 2, slot := 1, constantValue := 0 }]
  methods := #[k2m0, k2m1, k2m2, k2m3]
  instanceTypes := #[(.array .int), .int]
  staticTypes := #[]
  resolved := Array.replicate 58 none
  statics := none }

def pool3 : Array CpInfo := pool [(1, .class_ 2), (0, u "java/lang/Math"), (1, .class_ 6), (1, u "java/lang/Object"), (0, u "<init>"), (0, u "()V"), (89, .class_ 100), (1, u "java/lang/Math$RandomNumberGeneratorHolder"), (71, u "negativeZeroFloatBits"), (0, u "J"), (2, u "negativeZeroDoubleBits"), (21, u "max"), (2, u "min"), (43, u "$assertionsDisabled"), (0, u "Z"), (88, u "(II)I"), (2, u "twoToTheDoubleScaleDown"), (0, u "D"), (4, u "twoToTheDoubleScaleUp"), (9, u "E"), (3, u "PI"), (2, u "TAU"), (2, u "DEGREES_TO_RADIANS"), (0, u "RADIANS_TO_DEGREES")] 94

def k3m0 : Method := { name := "<init>", desc := "()V", sig := { parameters := [], returnType := none }, accessFlags := 2, code := none }
def k3c1 : Code := { maxStack := 2, maxLocals := 2, code := jdk_29_method_65_code, exceptionTable := #[], attributes := #[] }
def k3m1 : Method := { name := "max", desc := "(II)I", sig := { parameters := [.int, .int], returnType := some .int }, accessFlags := 9, code := some k3c1 }
def k3c2 : Code := { maxStack := 2, maxLocals := 2, code := jdk_29_method_69_code, exceptionTable := #[], attributes := #[] }
def k3m2 : Method := { name := "min", desc := "(II)I", sig := { parameters := [.int, .int], returnType := some .int }, accessFlags := 9, code := some k3c2 }
/-- java/lang/Math -/
def k3 : Class := { plain "java/lang/Math" (some 0) with
  accessFlags := 49
  interfaces := #[]
  cf := some (fileOf pool3 1 #[.nestMembers #[98]] #[{ accessFlags := 2, nameIndex := 7, descriptorIndex := 8, attributes := #[] }, { accessFlags := 9, nameIndex := 198, descriptorIndex := 335, attributes := #[] }, { accessFlags := 9, nameIndex := 201, descriptorIndex := 335, attributes := #[] }] 49 4 #[] #[{ accessFlags := 25, nameIndex := 354, descriptorIndex := 339, attributes := #[] }, { accessFlags := 25, nameIndex := 358, descriptorIndex := 339, attributes := #[] }, { accessFlags := 25, nameIndex := 361, descriptorIndex := 339, attributes := #[] }, { accessFlags := 26, nameIndex := 364, descriptorIndex := 339, attributes := #[] }, { accessFlags := 26, nameIndex := 365, descriptorIndex := 339, attributes := #[] }, { accessFlags := 26, nameIndex := 172, descriptorIndex := 173, attributes := #[] }, { accessFlags := 26, nameIndex := 176, descriptorIndex := 173, attributes := #[] }, { accessFlags := 8, nameIndex := 344, descriptorIndex := 339, attributes := #[] }, { accessFlags := 8, nameIndex := 338, descriptorIndex := 339, attributes := #[] }, { accessFlags := 4120, nameIndex := 245, descriptorIndex := 246, attributes := #[] }])
  fields := #[{ name := "E", type := .double, accessFlags := 25, slot := 0, constantValue := 0 }, { name := "PI", type := .double, accessFlags := 25, slot := 1, constantValue := 0 }, { name := "TAU", type := .double, accessFlags := 25, slot := 2, constantValue := 0 }, { name := "DEGREES_TO_RADIANS", type := .double, accessFlags := 26, slot := 3, constantValue := 0 }, { name := "RADIANS_TO_DEGREES", type := .double, accessFlags := 26, slot := 4, constantValue := 0 }, { name := "negativeZeroFloatBits", type := .long, accessFlags := 26, slot := 5, constantValue := 0 }, { name := "negativeZeroDoubleBits", type := .long, accessFlags := 26, slot := 6, constantValue := 0 }, { name := "twoToTheDoubleScaleUp", type := .double, accessFlags := 8, slot := 7, constantValue := 0 }, { name := "twoToTheDoubleScaleDown", type := .double, accessFlags := 8, slot := 8, constantValue := 0 }, { name := "$assertionsDisabled", type := .boolean, accessFlags := 4120, slot := 9, constantValue := 0 }]
  methods := #[k3m0, k3m1, k3m2]
  instanceTypes := #[]
  staticTypes := #[.double, .double, .double, .double, .double, .long, .long, .double, .double, .boolean]
  resolved := Array.replicate 460 none
  statics := none }

def pool4 : Array CpInfo := pool [(2, .class_ 4), (1, u "java/lang/Object"), (0, u "<init>"), (0, u "()V"), (7, .class_ 16), (1, u "java/util/Arrays"), (57, .class_ 76), (1, u "java/util/Arrays$NaturalOrder"), (36, .class_ 115), (1, u "java/util/Arrays$LegacyMergeSort"), (1, u "Z"), (32, .methodref 151 152), (0, .class_ 153), (0, .nameAndType 154 155), (0, u "java/lang/System"), (0, u "arraycopy"), (0, u "(Ljava/lang/Object;ILjava/lang/Object;II)V"), (146, u "copyOf"), (1, .methodref 305 306), (0, .class_ 307), (0, .nameAndType 308 309), (0, u "java/lang/Math"), (0, u "min"), (0, u "(II)I"), (65, .class_ 376), (0, u "java/util/Arrays$ArrayList"), (68, u "$assertionsDisabled"), (269, u "MIN_ARRAY_SORT_GRAN"), (0, u "I"), (2, u "INSERTIONSORT_THRESHOLD"), (151, u "([II)[I"), (103, .class_ 976), (0, u "java/util/Arrays$ArrayItr")] 52

def k4m0 : Method := { name := "<init>", desc := "()V", sig := { parameters := [], returnType := none }, accessFlags := 2, code := none }
def k4c1 : Code := { maxStack := 6, maxLocals := 3, code := jdk_65_method_123_code, exceptionTable := #[], attributes := #[] }
def k4m1 : Method := { name := "copyOf", desc := "([II)[I", sig := { parameters := [(.array .int), .int], returnType := some (.array .int) }, accessFlags := 9, code := some k4c1 }
/-- java/util/Arrays -/
def k4 : Class := { plain "java/util/Arrays" (some 0) with
  accessFlags := 49
  interfaces := #[]
  cf := some (fileOf pool4 14 #[.nestMembers #[975, 375, 113, 74]] #[{ accessFlags := 2, nameIndex := 5, descriptorIndex := 6, attributes := #[] }, { accessFlags := 9, nameIndex := 302, descriptorIndex := 871, attributes := #[] }] 49 2 #[] #[{ accessFlags := 26, nameIndex := 715, descriptorIndex := 716, attributes := #[] }, { accessFlags := 26, nameIndex := 719, descriptorIndex := 716, attributes := #[] }, { accessFlags := 4120, nameIndex := 445, descriptorIndex := 117, attributes := #[] }])
  fields := #[{ name := "MIN_ARRAY_SORT_GRAN", type := .int, accessFlags := 26, slot := 0, constantValue := 0 }, { name := "INSERTIONSORT_THRESHOLD", type := .int, accessFlags := 26, slot := 1, constantValue := 0 }, { name := "$assertionsDisabled", type := .boolean, accessFlags := 4120, slot := 2, constantValue := 0 }]
  methods := #[k4m0, k4m1]
  instanceTypes := #[]
  staticTypes := #[.int, .int, .boolean]
  resolved := Array.replicate 1029 none
  statics := none }

def pool5 : Array CpInfo := pool [(2, .class_ 4), (1, u "java/lang/Object"), (0, u "<init>"), (0, u "()V"), (1, .class_ 10), (1, u "java/lang/System"), (0, u "allowSecurityManager"), (0, u "I"), (16, u "cons"), (0, u "Ljava/io/Console;"), (77, .class_ 110), (1, u "java/lang/System$CallersHolder"), (43, u "initialErrStream"), (0, u "Ljava/io/PrintStream;"), (19, u "security"), (0, u "Ljava/lang/SecurityManager;"), (31, .class_ 209), (0, u "java/lang/System$1"), (7, u "props"), (0, u "Ljava/util/Properties;"), (2, u "lineSeparator"), (0, u "Ljava/lang/String;"), (96, .class_ 321), (1, u "java/lang/System$LoggerFinder"), (5, .class_ 328), (0, u "java/lang/System$Logger"), (67, u "err"), (2, u "out"), (91, u "notSupportedJnuEncoding"), (15, u "in"), (17, u "initialIn"), (0, u "Ljava/io/InputStream;"), (35, u "bootLayer"), (0, u "Ljava/lang/ModuleLayer;"), (99, .class_ 664), (0, u "java/lang/System$2"), (9, u "NEVER"), (2, u "MAYBE"), (49, u "arraycopy"), (0, u "(Ljava/lang/Object;ILjava/lang/Object;II)V"), (72, .class_ 802), (0, u "java/lang/System$Logger$Level")] 31

def k5m0 : Method := { name := "<init>", desc := "()V", sig := { parameters := [], returnType := none }, accessFlags := 2, code := none }
def k5m1 : Method := { name := "arraycopy", desc := "(Ljava/lang/Object;ILjava/lang/Object;II)V", sig := { parameters := [(.object "java/lang/Object"), .int, (.object "java/lang/Object"), .int, .int], returnType := none }, accessFlags := 265, code := none }
/-- java/lang/System -/
def k5 : Class := { plain "java/lang/System" (some 0) with
  accessFlags := 49
  interfaces := #[]
  cf := some (fileOf pool5 8 #[.nestMembers #[319, 327, 801, 108, 663, 208]] #[{ accessFlags := 2, nameIndex := 5, descriptorIndex := 6, attributes := #[] }, { accessFlags := 265, nameIndex := 727, descriptorIndex := 728, attributes := #[] }] 49 2 #[] #[{ accessFlags := 25, nameIndex := 507, descriptorIndex := 526, attributes := #[] }, { accessFlags := 25, nameIndex := 399, descriptorIndex := 155, attributes := #[] }, { accessFlags := 25, nameIndex := 396, descriptorIndex := 155, attributes := #[] }, { accessFlags := 10, nameIndex := 525, descriptorIndex := 526, attributes := #[] }, { accessFlags := 26, nameIndex := 674, descriptorIndex := 12, attributes := #[] }, { accessFlags := 26, nameIndex := 677, descriptorIndex := 12, attributes := #[] }, { accessFlags := 10, nameIndex := 11, descriptorIndex := 12, attributes := #[] }, { accessFlags := 74, nameIndex := 175, descriptorIndex := 176, attributes := #[] }, { accessFlags := 10, nameIndex := 491, descriptorIndex := 222, attributes := #[] }, { accessFlags := 74, nameIndex := 29, descriptorIndex := 30, attributes := #[] }, { accessFlags := 74, nameIndex := 154, descriptorIndex := 155, attributes := #[] }, { accessFlags := 10, nameIndex := 217, descriptorIndex := 218, attributes := #[] }, { accessFlags := 10, nameIndex := 221, descriptorIndex := 222, attributes := #[] }, { accessFlags := 8, nameIndex := 562, descriptorIndex := 563, attributes := #[] }])
  fields := #[{ name := "in", type := (.object "java/io/InputStream"), accessFlags := 25, slot := 0, constantValue := 0 }, { name := "out", type := (.object "java/io/PrintStream"), accessFlags := 25, slot := 1, constantValue := 0 }, { name := "err", type := (.object "java/io/PrintStream"), accessFlags := 25, slot := 2, constantValue := 0 }, { name := "initialIn", type := (.object "java/io/InputStream"), accessFlags := 10, slot := 3, constantValue := 0 }, { name := "NEVER", type := .int, accessFlags := 26, slot := 4, constantValue := 0 }, { name := "MAYBE", type := .int, accessFlags := 26, slot := 5, constantValue := 0 }, { name := "allowSecurityManager", type := .int, accessFlags := 10, slot := 6, constantValue := 0 }, { name := "security", type := (.object "java/lang/SecurityManager"), accessFlags := 74, slot := 7, constantValue := 0 }, { name := "notSupportedJnuEncoding", type := (.object "java/lang/String"), accessFlags := 10, slot := 8, constantValue := 0 }, { name := "cons", type := (.object "java/io/Console"), accessFlags := 74, slot := 9, constantValue := 0 }, { name := "initialErrStream", type := (.object "java/io/PrintStream"), accessFlags := 74, slot := 10, constantValue := 0 }, { name := "props", type := (.object "java/util/Properties"), accessFlags := 10, slot := 11, constantValue := 0 }, { name := "lineSeparator", type := (.object "java/lang/String"), accessFlags := 10, slot := 12, constantValue := 0 }, { name := "bootLayer", type := (.object "java/lang/ModuleLayer"), accessFlags := 8, slot := 13, constantValue := 0 }]
  methods := #[k5m0, k5m1]
  instanceTypes := #[]
  staticTypes := #[(.object "java/io/InputStream"), (.object "java/io/PrintStream"), (.object "java/io/PrintStream"), (.object "java/io/InputStream"), .int, .int, .int, (.object "java/lang/SecurityManager"), (.object "java/lang/String"), (.object "java/io/Console"), (.object "java/io/PrintStream"), (.object "java/util/Properties"), (.object "java/lang/String"), (.object "java/lang/ModuleLayer")]
  resolved := Array.replicate 834 none
  statics := none }

def pool6 : Array CpInfo := pool [(1, u "java/lang/Cloneable"), (0, .class_ 1), (0, u "java/lang/Object"), (0, .class_ 3)] 3

/-- java/lang/Cloneable -/
def k6 : Class := { plain "java/lang/Cloneable" (some 0) with
  accessFlags := 1537
  interfaces := #[]
  cf := some (fileOf pool6 2 #[] #[] 1537 4 #[] #[])
  fields := #[]
  methods := #[]
  instanceTypes := #[]
  staticTypes := #[]
  resolved := Array.replicate 8 none
  statics := none }

def pool7 : Array CpInfo := pool [(1, u "java/io/Serializable"), (0, .class_ 1), (0, u "java/lang/Object"), (0, .class_ 3)] 3

/-- java/io/Serializable -/
def k7 : Class := { plain "java/io/Serializable" (some 0) with
  accessFlags := 1537
  interfaces := #[]
  cf := some (fileOf pool7 2 #[] #[] 1537 4 #[] #[])
  fields := #[]
  methods := #[]
  instanceTypes := #[]
  staticTypes := #[]
  resolved := Array.replicate 8 none
  statics := none }

/-- the primitive byte -/
def k8 : Class := { plain "byte" none with kind := .primitive 'B', accessFlags := 0x411 }
/-- [B -/
def k9 : Class := { plain "[B" (some 0) with kind := .array 8 .byte, interfaces := #[6, 7], accessFlags := 1041 }

/-- the primitive int -/
def k10 : Class := { plain "int" none with kind := .primitive 'I', accessFlags := 0x411 }
/-- [I -/
def k11 : Class := { plain "[I" (some 0) with kind := .array 10 .int, interfaces := #[6, 7], accessFlags := 1041 }

def heap : Heap := #[]
def classes : Array Class := #[k0, k1, k2, k3, k4, k5, k6, k7, k8, k9, k10, k11]
def interned : List (Array UInt16 × Addr) := []
def slotsUsed : Nat := 0
def theMethod : MethodId := ⟨1, 1⟩
def args0 : Array Value := #[.int 9, .int 3, .int 4, .int 5, .int 6, .int 7]
def aboutOver (below : List Frame) : State where
  vm := { classes := classes, interned := interned.toArray }
  heap := heap
  slotsUsed := slotsUsed
  threads := #[{ frames := .invoking theMethod args0 :: below }]
def below0 : List Frame := [.native { method := ⟨0, 0⟩, args := #[] }]
def about1 : State := aboutOver below0
def p0 : Program := .bare "" "" ""
def e0 : Env := launch0.env 0 0 0
theorem w_frames : about1.frames = Frame.invoking theMethod args0 :: below0 := rfl
set_option maxRecDepth 65536 in
theorem w_args : argsFit about1.vm theMethod args0 = true := by decide +kernel
set_option maxRecDepth 65536 in
theorem w_heap : heapFits about1 = true := by decide +kernel
set_option maxRecDepth 65536 in
theorem w_runnable : about1.curStatus? = some .runnable := by decide +kernel
set_option maxRecDepth 65536 in
theorem w_alone : about1.alone = true := by decide +kernel
set_option maxRecDepth 65536 in
theorem w_named : about1.methodNamed? x = some theMethod := by decide +kernel
set_option maxRecDepth 65536 in
theorem w_hears : about1.hears theMethod below0 = true := by decide +kernel
set_option maxRecDepth 65536 in
theorem w_ripe : about1.ripe theMethod args0 below0 = true := by decide +kernel
theorem w_running : about1.status = .running := rfl
set_option maxRecDepth 65536 in
theorem w_room : about1.hasRoom e0.platform room_1 = true :=
  launch0.hasRoom_least _ room_1 (by decide +kernel) (by decide +kernel) (by decide +kernel) (by decide +kernel) (by decide +kernel) (by decide +kernel)
theorem allAtoms_all (ts : List Jvm.Cond) (a : Array Jvm.Value) (st : Jvm.State) : (allAtoms ts).before a st = ts.all (fun c => c.before a st) := by
  induction ts with
  | nil => rfl
  | cons c t ih =>
    show (Jvm.Cond.and c (allAtoms t)).before a st = _
    rw [Jvm.Cond.before_and, ih, List.all_cons]
def words1 : List Jvm.Cond := Jvm.Cond.code x code maxLocals ret :: tables_1
/-- a 'code' word, met by the world's own term for the bytes: nothing is compared byte by byte -/
theorem code_word {y : MethodName} {bytes : ByteArray} {mx : Nat} {rt : Option FieldType} {a : Array Value} {s : State} {m : MethodId} {meth : Method} {c : Code} (h1 : s.methodNamed? y = some m) (h2 : s.vm.method? m = some meth) (h3 : meth.code = some c) (h4 : c.code = bytes)
    (h5 : (c.maxLocals == mx && c.exceptionTable.isEmpty && decide (c.maxStack ≤ mostOperands) && decide (meth.sig.returnType = rt) && !meth.locks && decide (parseMethodDescriptor y.desc = some meth.sig)) = true) : (Jvm.Cond.code y bytes mx rt).before a s = true := by
  simp only [Bool.and_eq_true, beq_iff_eq, Bool.not_eq_true', decide_eq_true_eq] at h5
  obtain ⟨⟨⟨⟨⟨g1, g2⟩, g3⟩, g4⟩, g5⟩, g6⟩ := h5
  simp [Cond.before, Cond.holds, Cond.value, h1, h2, h3, h4, g1, g2, g3, g4, g5, g6]
def isCode : Jvm.Cond → Bool
  | .code _ _ _ _ => true
  | _ => false
theorem all_split {L : List Jvm.Cond} {P : Jvm.Cond → Bool} (h1 : L.all (fun c => isCode c || P c) = true) (h2 : ∀ c ∈ L.filter isCode, P c = true) : L.all P = true := by
  refine List.all_eq_true.mpr fun c hc => ?_
  have h := List.all_eq_true.mp h1 c hc
  rcases Bool.eq_false_or_eq_true (isCode c) with hi | hi
  · exact h2 c (List.mem_filter.mpr ⟨hc, hi⟩)
  · simpa [hi] using h
set_option maxRecDepth 65536 in
theorem w_c0 : (Jvm.Cond.code x code maxLocals ret).before args0 about1 = true := code_word (m := ⟨1, 1⟩) (meth := k1m1) (c := k1c1) (by decide +kernel) rfl rfl rfl (by decide +kernel)
set_option maxRecDepth 65536 in
theorem w_c1 : (Jvm.Cond.code ({ cls := "com/example/surrogate/surrogate/index/Entries", name := "<init>", desc := "(I)V" } : Jvm.MethodName) prog_20_method_2_code (2 : Nat) (Option.none : Option Jvm.ClassFile.FieldType)).before args0 about1 = true := code_word (m := ⟨2, 1⟩) (meth := k2m1) (c := k2c1) (by decide +kernel) rfl rfl rfl (by decide +kernel)
set_option maxRecDepth 65536 in
theorem w_c2 : (Jvm.Cond.code ({ cls := "java/lang/Object", name := "<init>", desc := "()V" } : Jvm.MethodName) object_method_1_code (1 : Nat) (Option.none : Option Jvm.ClassFile.FieldType)).before args0 about1 = true := code_word (m := ⟨0, 0⟩) (meth := k0m0) (c := k0c0) (by decide +kernel) rfl rfl rfl (by decide +kernel)
set_option maxRecDepth 65536 in
theorem w_c3 : (Jvm.Cond.code ({ cls := "com/example/surrogate/surrogate/index/Entries", name := "frequencies", desc := "()[I" } : Jvm.MethodName) prog_20_method_8_code (3 : Nat) (Option.some (Jvm.ClassFile.FieldType.array Jvm.ClassFile.FieldType.int))).before args0 about1 = true := code_word (m := ⟨2, 3⟩) (meth := k2m3) (c := k2c3) (by decide +kernel) rfl rfl rfl (by decide +kernel)
set_option maxRecDepth 65536 in
theorem w_c4 : (Jvm.Cond.code ({ cls := "com/example/surrogate/surrogate/index/Entries", name := "add", desc := "(II)V" } : Jvm.MethodName) prog_20_method_3_code (3 : Nat) (Option.none : Option Jvm.ClassFile.FieldType)).before args0 about1 = true := code_word (m := ⟨2, 2⟩) (meth := k2m2) (c := k2c2) (by decide +kernel) rfl rfl rfl (by decide +kernel)
set_option maxRecDepth 65536 in
theorem w_c5 : (Jvm.Cond.code ({ cls := "java/lang/Math", name := "max", desc := "(II)I" } : Jvm.MethodName) jdk_29_method_65_code (2 : Nat) (Option.some Jvm.ClassFile.FieldType.int)).before args0 about1 = true := code_word (m := ⟨3, 1⟩) (meth := k3m1) (c := k3c1) (by decide +kernel) rfl rfl rfl (by decide +kernel)
set_option maxRecDepth 65536 in
theorem w_c6 : (Jvm.Cond.code ({ cls := "java/util/Arrays", name := "copyOf", desc := "([II)[I" } : Jvm.MethodName) jdk_65_method_123_code (3 : Nat) (Option.some (Jvm.ClassFile.FieldType.array Jvm.ClassFile.FieldType.int))).before args0 about1 = true := code_word (m := ⟨4, 1⟩) (meth := k4m1) (c := k4c1) (by decide +kernel) rfl rfl rfl (by decide +kernel)
set_option maxRecDepth 65536 in
theorem w_c7 : (Jvm.Cond.code ({ cls := "java/lang/Math", name := "min", desc := "(II)I" } : Jvm.MethodName) jdk_29_method_69_code (2 : Nat) (Option.some Jvm.ClassFile.FieldType.int)).before args0 about1 = true := code_word (m := ⟨3, 2⟩) (meth := k3m2) (c := k3c2) (by decide +kernel) rfl rfl rfl (by decide +kernel)
def codes1 : List Jvm.Cond := [Jvm.Cond.code x code maxLocals ret, Jvm.Cond.code ({ cls := "com/example/surrogate/surrogate/index/Entries", name := "<init>", desc := "(I)V" } : Jvm.MethodName) prog_20_method_2_code (2 : Nat) (Option.none : Option Jvm.ClassFile.FieldType), Jvm.Cond.code ({ cls := "java/lang/Object", name := "<init>", desc := "()V" } : Jvm.MethodName) object_method_1_code (1 : Nat) (Option.none : Option Jvm.ClassFile.FieldType), Jvm.Cond.code ({ cls := "com/example/surrogate/surrogate/index/Entries", name := "frequencies", desc := "()[I" } : Jvm.MethodName) prog_20_method_8_code (3 : Nat) (Option.some (Jvm.ClassFile.FieldType.array Jvm.ClassFile.FieldType.int)), Jvm.Cond.code ({ cls := "com/example/surrogate/surrogate/index/Entries", name := "add", desc := "(II)V" } : Jvm.MethodName) prog_20_method_3_code (3 : Nat) (Option.none : Option Jvm.ClassFile.FieldType), Jvm.Cond.code ({ cls := "java/lang/Math", name := "max", desc := "(II)I" } : Jvm.MethodName) jdk_29_method_65_code (2 : Nat) (Option.some Jvm.ClassFile.FieldType.int), Jvm.Cond.code ({ cls := "java/util/Arrays", name := "copyOf", desc := "([II)[I" } : Jvm.MethodName) jdk_65_method_123_code (3 : Nat) (Option.some (Jvm.ClassFile.FieldType.array Jvm.ClassFile.FieldType.int)), Jvm.Cond.code ({ cls := "java/lang/Math", name := "min", desc := "(II)I" } : Jvm.MethodName) jdk_29_method_69_code (2 : Nat) (Option.some Jvm.ClassFile.FieldType.int)]
set_option maxRecDepth 65536 in
theorem codes_eq : words1.filter isCode = codes1 := rfl
theorem w_codes : ∀ c ∈ words1.filter isCode, c.before args0 about1 = true := by
  rw [codes_eq]
  intro c hc
  simp only [codes1, List.mem_cons, List.not_mem_nil, or_false] at hc
  rcases hc with rfl | rfl | rfl | rfl | rfl | rfl | rfl | rfl
  · exact w_c0
  · exact w_c1
  · exact w_c2
  · exact w_c3
  · exact w_c4
  · exact w_c5
  · exact w_c6
  · exact w_c7
set_option maxRecDepth 65536 in
theorem w_t1 : (words1.take 24).all (fun c => isCode c || c.before args0 about1) = true := by decide +kernel
set_option maxRecDepth 65536 in
theorem w_t2 : (words1.drop 24).all (fun c => isCode c || c.before args0 about1) = true := by decide +kernel
theorem w_tables : (allAtoms (Jvm.Cond.code x code maxLocals ret :: tables_1)).before args0 about1 = true := by
  rw [allAtoms_all]
  show words1.all (fun c => c.before args0 about1) = true
  refine all_split ?_ w_codes
  rw [← List.take_append_drop 24 words1, List.all_append, w_t1, w_t2]
  rfl
set_option maxRecDepth 65536 in
theorem w_case : (Jvm.Cond.and given_1 narrow_1).before args0 about1 = true := by decide +kernel
theorem w_applies : (headSpec (Jvm.Cond.code x code maxLocals ret :: tables_1) room_1).applies x e0.platform about1 = true :=
  (Spec.applies_iff w_frames).mpr ⟨w_running, w_runnable, w_alone, w_named, w_hears, w_ripe, w_room, w_tables⟩
theorem atStart : AtStart classFile x code maxLocals ret World_1 tables_1 room_1 Calls_1 rest_1 Pre_1 launch0 p0 e0 about1 theMethod args0 below0 :=
  ⟨lists_1, trivial, launch0.admits_env _ _ _, launch0.least_env, fairChoices_fair.cas, fairChoices_fair.clock, w_frames, w_args, w_heap, w_applies, trivial, trivial, w_case⟩
end start1
theorem witness_1 : WitnessClaimed_1 := ⟨start1.p0, start1.e0, start1.about1, start1.theMethod, start1.args0, start1.below0, start1.atStart⟩
end Jvm.Pilot.@@N@@
