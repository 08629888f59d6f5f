import JvmDerived
import JvmDerived.Pilot.@@N@@Statement
import JvmDerived.Pilot.@@N@@Code
set_option linter.unusedVariables false
set_option linter.unusedSimpArgs false
namespace Jvm.RoadKit
open Sem ClassFile Op Lib Jvm.Stand Jvm.Free Jvm.LawKit
section New
variable {p : Program} {l : Launch} {e : Env} {R : Room} {s : State} {m : MethodId} {args : Array Value} {below : List Frame} {meth : Method} {c : Code} {T : State} {locs : List Loc} {cells slots : Nat}
theorem retI (X : Stand p l e R s m args below meth c T locs cells slots) (hx : p.tables.exec = Jvm.exec) {pc : Nat} {Ls : Array Slot} {z : Int32} {rest : List Value} (hret : meth.sig.returnType = some .int) (hd : decode c.code pc = .ok (.ireturn, 1)) {fs : List Frame}
    (hl : ∀ (f : JFrame) (acts : List Action), f.method = m → f.locked = none → f.entered = [] → (doReturn e (T.setTop f) acts (some (.int z))).1 = T.setFrames fs) : Steps p.tables e below (T.setTop (mkF m pc Ls (.int z :: rest))) (T.setFrames fs) := by
  have hm' : T.vm.method? m = some meth := X.method'
  have hn : narrow .int (.int z) = .int z := rfl
  show Steps p.tables e below (T.setTop { method := m, pc := pc, locals := Ls, stack := _ :: rest, locked := none }) _
  jvm_step X.here [X.here.top, hx, hd, hm', hret, hn]
  first | (intro acts; rw [hl _ acts rfl rfl rfl]) | rw [hl _ _ rfl rfl rfl]
  exact Steps.refl _
/-- the run from A ends, and P holds at the end -/
def own_Go (p : Program) (e : Env) (below : List Frame) (A : State) (P : State → Outcome → Prop) : Prop := ∃ s₂ o, Steps p.tables e below A s₂ ∧ s₂.status = .running ∧ Ended s₂ below o ∧ P s₂ o
theorem own_by {A B : State} {P : State → Outcome → Prop} (h : ∀ t, Steps p.tables e below B t → Steps p.tables e below A t) (g : own_Go p e below B P) : own_Go p e below A P := by
  obtain ⟨s2, o, h1, h2⟩ := g
  exact ⟨s2, o, h _ h1, h2⟩
theorem own_end (X : Stand p l e R s m args below meth c T locs cells slots) {v : Option Value} (hv : meth.sig.returnType = none → v = none) (hlk : meth.locks = false) {A : State} {Q : Option Value → Heap → List Loc → Prop} {k n : Nat}
    (hs : ∀ fs, (∀ (f : JFrame) (acts : List Action), f.method = m → f.locked = none → f.entered = [] → (doReturn e (T.setTop f) acts v).1 = T.setFrames fs) → Steps p.tables e below A (T.setFrames fs))
    (hq : Q v T.heap locs) (hk : cells ≤ k) (hn : slots ≤ n) : own_Go p e below A (fun t o => ∃ v L, o = .returned v ∧ Q v t.heap L ∧ FrameEnd s o t L k n) := by
  obtain ⟨fs, hr, hrun, hended, hW, hsame⟩ := X.leave (v := v) hv hlk
  exact ⟨_, _, hs fs hr, hrun, hended, _, _, rfl, hq, ⟨_, rfl⟩, hW, hsame.mono hk hn⟩
theorem own_endW {vm₁ : Vm} (X : Stand p l e R (s.setVm vm₁) m args below meth c T locs cells slots) {n0 : Nat} (hS : s.Since vm₁ n0) (hn0 : n0 ≤ T.heap.size) {v : Option Value} (hv : meth.sig.returnType = none → v = none) (hlk : meth.locks = false) {A : State} {Q : Option Value → Heap → List Loc → Prop} {k n : Nat}
    (hs : ∀ fs, (∀ (f : JFrame) (acts : List Action), f.method = m → f.locked = none → f.entered = [] → (doReturn e (T.setTop f) acts v).1 = T.setFrames fs) → Steps p.tables e below A (T.setFrames fs))
    (hq : Q v T.heap locs) (hk : cells ≤ k) (hn : slots ≤ n) : own_Go p e below A (fun t o => ∃ v L, o = .returned v ∧ Q v t.heap L ∧ ReturnedEndW s o t L k n) := by
  obtain ⟨fs, hr, hrun, hended, h1, h2, h3, h4⟩ := X.leaveW hS hn0 (v := v) hv hlk
  exact ⟨_, _, hs fs hr, hrun, hended, _, _, rfl, hq, h1, h2, h3, h4.mono hk hn⟩
theorem own_newPE {Z : State} {a0 : Array Value} {h : Heap} (X : Stand p l e R s m args below meth c T locs cells slots) (hx : p.tables.exec = Jvm.exec) (hZ : Z.Warmed39 s.vm) {aty : ArrayType} (w : (Cond.arrayClass (newarray.typeOf aty)).before a0 Z = true) (eT : T.heap = h) {g : JFrame} (hg : g.method = m) (hd : decode c.code g.pc = .ok (.newarray aty, 2)) {n : Int32} {rest : List Value} (hs : g.stack = .int n :: rest)
    (hn : ¬ n < 0) {cap : Nat} (hcap : n.toNatClampNeg ≤ cap) (hb : cap * 8 ≤ 536870912) (hc : cells + 1 ≤ R.cells) (hl : slots + cap ≤ R.slots) {ad : String} (had : "[" ++ (newarray.typeOf aty).toString = ad) :
    ∃ T' h' cA, Stand p l e R s m args below meth c T' locs (cells + 1) (slots + cap) ∧ T'.heap = h' ∧ Ext h h' ∧ Arr Z h' h.size (newA cA (newarray.typeOf aty) n) (newarray.typeOf aty) ∧ Exa Z h' h.size ad ∧
      ∀ target, Steps p.tables e below (T'.setTop { g with pc := g.pc + 2, stack := .ref h.size :: rest }) target → Steps p.tables e below (T.setTop g) target := by
  have hcb : componentBytes (newarray.typeOf aty) ≤ 8 := by cases aty <;> decide
  obtain ⟨cA, kA, comp, f1, f2, f3, Y, st⟩ := X.newarrayPrim hx (mvA hZ w) hg hd hs hn (Nat.le_trans (Nat.mul_le_mul hcap hcb) hb) hc (Nat.le_trans (Nat.add_le_add_left hcap _) hl)
  subst eT had
  have f1' : Z.vm.findClass ("[" ++ (newarray.typeOf aty).toString) = some cA := by rw [← hZ.alike.findClass]; exact f1
  obtain ⟨kZ, z1, -⟩ := Vm.findClass_spec f1'
  obtain ⟨k', z2, z3⟩ := hZ.alike.2.2 _ _ z1
  have ek : kA = k' := Option.some.inj (f2.symm.trans z2)
  have kd : kZ.kind = .array comp (newarray.typeOf aty) := by rw [← f3, ek, z3]
  have hN : (T.heap.push (newA cA (newarray.typeOf aty) n))[T.heap.size]? = some (newA cA (newarray.typeOf aty) n) := by simp
  refine ⟨_, _, cA, Y.more (Nat.le_refl _) (Nat.add_le_add_left hcap _), rfl, ext_of fun a q => ?_, ⟨hN, ⟨fun _ z => (by cases z), kZ, z1, comp, kd⟩, fun z => (by cases z)⟩, ⟨_, kZ, hN, f1', z1, rfl, fun ho => by rw [kd] at ho; cases ho⟩, st⟩
  exact (Array.getElem?_push_lt q).trans (Array.getElem?_eq_getElem q).symm
end New
section Arf
variable {Z : State} {h h' : Heap} {a b : Addr} {ty : FieldType} {n z : Int32} {f g : Nat → Value} {sl : Nat} {v : Value} {ws : List Addr} {k : ClassId}
/-- an array of n places, of which place i holds f i -/
def own_Arf (Z : State) (h : Heap) (a : Addr) (ty : FieldType) (n : Int32) (f : Nat → Value) : Prop := ∃ c : Cell, Arr Z h a c ty ∧ c.slots.size = n.toNatClampNeg ∧ ¬ n < 0 ∧ ∀ i, i < c.slots.size → c.slots[i]? = some (f i)
theorem own_Arf.lt (F : own_Arf Z h a ty n f) : a < h.size := by obtain ⟨c, A, -⟩ := F; exact A.lt
theorem own_Arf.ext (F : own_Arf Z h a ty n f) (E : Ext h h') : own_Arf Z h' a ty n f := by obtain ⟨c, A, r⟩ := F; exact ⟨c, A.ext E, r⟩
theorem own_Arf.other (F : own_Arf Z h b ty n f) (W : Wr h h' a sl v) (q : b ≠ a) : own_Arf Z h' b ty n f := by obtain ⟨c, A, r⟩ := F; exact ⟨c, A.other W q, r⟩
theorem own_Arf.keep (F : own_Arf Z h a ty n f) (K : Keep h h' ws) (q : a ∉ ws) : own_Arf Z h' a ty n f := by obtain ⟨c, A, r⟩ := F; exact ⟨c, ⟨K.2.1 a c A.1 q, A.2⟩, r⟩
theorem own_Arf.new (A : Arr Z h a (newA k ty z) ty) (q : ¬ z < 0) : own_Arf Z h a ty z (fun _ => defaultValue ty) := ⟨_, A, sz_new _ _ _, q, fun i hi => by
  rw [sz_new] at hi
  simp [newA, hi]⟩
theorem own_Arf.set (F : own_Arf Z h a ty n f) (W : Wr h h' a sl v) : own_Arf Z h' a ty n (fun i => if i = sl then v else f i) := by
  obtain ⟨c, A, S, N, H⟩ := F
  have hsl : sl < c.slots.size := by
    obtain ⟨c2, e1, -, e3, -⟩ := W
    cases A.1.symm.trans e1
    exact e3
  refine ⟨_, A.same W, by rw [sz_set]; exact S, N, fun i hi => ?_⟩
  rw [sz_set] at hi
  by_cases e : i = sl
  · subst e
    simp [Cell.setSlot, hi]
  · simp only [Cell.setSlot, if_neg e]
    rw [Array.getElem?_setIfInBounds_ne (Ne.symm e)]
    exact H i hi
theorem own_Arf.congr (F : own_Arf Z h a ty n f) (q : ∀ i, i < n.toNatClampNeg → f i = g i) : own_Arf Z h a ty n g := by
  obtain ⟨c, A, S, N, H⟩ := F
  exact ⟨c, A, S, N, fun i hi => by rw [← q i (by rw [← S]; exact hi)]; exact H i hi⟩
theorem own_Arf.at (F : own_Arf Z h a ty n f) {j : Int32} (q : ¬ j < 0 ∧ j < n) : ∃ c : Cell, Arr Z h a c ty ∧ ¬ (j < 0 ∨ c.slots.size ≤ j.toNatClampNeg) ∧ c.slots[j.toNatClampNeg]? = some (f j.toNatClampNeg) := by
  obtain ⟨c, A, S, N, H⟩ := F
  have hin := inb_of S q
  exact ⟨c, A, hin, H _ (Nat.lt_of_not_le fun y => hin (Or.inr y))⟩
theorem own_Arf.nn (F : own_Arf Z h a ty n f) : ¬ n < 0 := by obtain ⟨c, A, S, N, H⟩ := F; exact N
/-- an array of objects of the class C -/
def own_Ovr (Z : State) (h : Heap) (a : Addr) (C : String) : Prop := ∃ (c : Cell) (ty : FieldType), Arr Z h a c ty ∧ Ovr Z c.cls C
theorem own_Ovr.wr {C : String} (W : Wr h h' b sl v) (F : own_Ovr Z h a C) : own_Ovr Z h' a C := by
  obtain ⟨c, ty, A, O⟩ := F
  by_cases e : a = b
  · subst e; exact ⟨_, ty, A.same W, O⟩
  · exact ⟨c, ty, A.other W e, O⟩
theorem own_Ovr.ext {C : String} (F : own_Ovr Z h a C) (E : Ext h h') : own_Ovr Z h' a C := by obtain ⟨c, ty, A, O⟩ := F; exact ⟨c, ty, A.ext E, O⟩
theorem own_Ovr.sto {C : String} {y : Addr} (F : own_Ovr Z h a C) (I : Exa Z h y C) : Sto Z h a (.ref y) := by obtain ⟨c, ty, A, O⟩ := F; exact Sto.of A O (Ins.self I)
theorem own_selp {s : State} {a0 args : Array Value} {y : MethodName} {n : Nat} (hZ : Z.Warmed39 s.vm) (wi : (Cond.instantiable y.cls n).before a0 Z = true) (wn : (Cond.instanceMethod y).before a0 Z = true) (wp : (Cond.privateMethod y).before a0 Z = true) (hy : y.cls ≠ "java/lang/invoke/MethodHandle" ∧ y.cls ≠ "java/lang/invoke/VarHandle") : (Cond.selects y.cls y y).before args s = true := by
  obtain ⟨c2, k2, i1, i2, -, i4, -⟩ := Cond.instantiable_spec (mvT hZ wi : (Cond.instantiable y.cls n).before args s = true)
  simp only [Bool.or_eq_false_iff] at i4
  exact selects_self_of_private i1 i2 i4.1 (Cond.privateMethod_at (mvP hZ wp (args := args))) (mvT hZ wn) hy
theorem own_sta_keep {C n d : String} {w : Value} (F : Sta Z h C n d w) (K : Keep h h' []) : Sta Z h' C n d w := by
  obtain ⟨cf, i, k, f, st, cell, h1, h2, h3, h4, h5, h6⟩ := F
  exact ⟨cf, i, k, f, st, cell, h1, h2, h3, h4, K.2.1 _ _ h5 nin0, h6⟩
theorem own_ofNat_int {m : Nat} (h : m < 2 ^ 31) : (Int32.ofNat m).toInt = m := Int32.toInt_ofNat_of_lt h
theorem own_tn {m : Nat} (h : m < 2 ^ 31) : (Int32.ofNat m).toNatClampNeg = m := by
  show (Int32.ofNat m).toInt.toNat = m
  rw [own_ofNat_int h]; omega
theorem own_nn {m : Nat} (h : m < 2 ^ 31) : ¬ Int32.ofNat m < 0 := by
  rw [Int32.lt_iff_toInt_lt, own_ofNat_int h]; show ¬ (m : Int) < 0; omega
theorem own_ltN {i m : Nat} (h : i < m) (hm : m < 2 ^ 31) : Int32.ofNat i < Int32.ofNat m := by
  rw [Int32.lt_iff_toInt_lt, own_ofNat_int hm, own_ofNat_int (by omega)]; omega
theorem own_in {i m : Nat} (h : i < m) (hm : m < 2 ^ 31) : ¬ Int32.ofNat i < 0 ∧ Int32.ofNat i < Int32.ofNat m := ⟨own_nn (by omega), own_ltN h hm⟩
theorem own_injN {i m : Nat} (hi : i < 2 ^ 31) (hm : m < 2 ^ 31) (e : Int32.ofNat i = Int32.ofNat m) : i = m := by
  have := congrArg Int32.toInt e
  rw [own_ofNat_int hi, own_ofNat_int hm] at this; omega
theorem own_Arf.arv (F : own_Arf Z h a ty n f) (hf : ∀ i, i < n.toNatClampNeg → fits ty (f i) = true) (d : Value) : ∃ k, Arv Z h a k ty n ((List.range n.toNatClampNeg).map f) d := by
  obtain ⟨c, A, S, N, H⟩ := F
  have hg : ∀ i, i < n.toNatClampNeg → ((List.range n.toNatClampNeg).map f).getD i d = f i := fun i hi => by
    simp [List.getD, hi]
  refine ⟨c.cls, c, A, rfl, S, N, fun i hi => ?_, fun i hi => ?_⟩
  · rw [hg i (by rw [← S]; exact hi)]; exact H i hi
  · rw [hg i (by rw [← S]; exact hi)]; exact hf i (by rw [← S]; exact hi)
theorem own_Arf.of {vs : List Value} {d : Value} (F : Arv Z h a k ty n vs d) : own_Arf Z h a ty n (fun i => vs.getD i d) := by
  obtain ⟨c, A, -, S, N, H, -⟩ := F
  exact ⟨c, A, S, N, H⟩
end Arf
end Jvm.RoadKit
namespace Jvm.Pilot.@@N@@
open Jvm Jvm.ClassFile Sem Op Lib Jvm.Free Jvm.Stand Jvm.LawKit Jvm.RoadKit Bundle Jvm.Pilot.@@N@@.Jvm.D
def own_len (b : Int32) : Int32 := if (b &&& 255) < 128 then 1 else if (b &&& 255) < 224 then 2 else if (b &&& 255) < 240 then 3 else 4
def own_bits (b : Int32) : Int32 := if b &&& 128 = 0 then 1 else if b &&& 64 = 0 then 2 else if b &&& 32 = 0 then 2 else if b &&& 16 = 0 then 3 else 4
theorem own_small {w : Int32} {N : Nat} (h0 : 0 ≤ w.toInt) (h1 : w.toInt < N) : ∃ n : Fin N, w = Int32.ofNat n.1 := by
  refine ⟨⟨w.toInt.toNat, by omega⟩, ?_⟩
  apply Int32.toInt_inj.mp
  have : w.toInt < 2147483648 := w.toInt_lt
  rw [Int32.toInt_ofNat_of_lt (by show w.toInt.toNat < 2 ^ 31; omega)]
  show w.toInt = ((w.toInt.toNat : Nat) : Int)
  omega
theorem own_b8 (x : Int32) : x.toInt8.toInt32 &&& 255 = x &&& 255 := by
  apply Int32.toBitVec_inj.mp
  rw [Int32.toBitVec_and, Int32.toBitVec_and, Int8.toBitVec_toInt32, Int32.toBitVec_toInt8]
  show _ &&& 255#32 = _ &&& 255#32
  apply BitVec.eq_of_getLsbD_eq
  intro i hi
  simp only [BitVec.getLsbD_and, BitVec.getLsbD_signExtend, BitVec.getLsbD_setWidth]
  by_cases h : i < 8
  · simp [h, hi]
  · have : BitVec.getLsbD 255#32 i = false := by
      rw [BitVec.getLsbD_ofNat]
      have : Nat.testBit 255 i = false := Nat.testBit_lt_two_pow (Nat.lt_of_lt_of_le (by decide : 255 < 2 ^ 8) (Nat.pow_le_pow_right (by decide) (by omega)))
      simp [this]
    simp [this]
theorem own_dec : ∀ n : Fin 256, (if Int32.ofNat n.1 < 128 then (1 : Int32) else if Int32.ofNat n.1 < 224 then 2 else if Int32.ofNat n.1 < 240 then 3 else 4) = own_bits (Int32.ofNat n.1) := by decide +kernel
theorem own_first (x : Int32) : own_len x.toInt8.toInt32 = own_bits (x &&& 255) := by
  unfold own_len; rw [own_b8]
  have hr := c_mask x 255 8 (by decide) (by decide)
  obtain ⟨n, e⟩ := own_small (w := x &&& 255) (N := 256) (by omega) (by omega)
  rw [e]; exact own_dec n
theorem own_s1 {w : Int32} (h0 : 0 ≤ w.toInt) (h1 : w.toInt < 128) : own_len w.toInt8.toInt32 = 1 := by
  obtain ⟨n, e⟩ := own_small (N := 128) h0 h1
  subst e; clear h0 h1; revert n; decide +kernel
theorem own_s2 {w : Int32} (h0 : 0 ≤ w.toInt) (h1 : w.toInt < 32) : own_len (192 ||| w).toInt8.toInt32 = 2 := by
  obtain ⟨n, e⟩ := own_small (N := 32) h0 h1
  subst e; clear h0 h1; revert n; decide +kernel
theorem own_s3 {w : Int32} (h0 : 0 ≤ w.toInt) (h1 : w.toInt < 16) : own_len (224 ||| w).toInt8.toInt32 = 3 := by
  obtain ⟨n, e⟩ := own_small (N := 16) h0 h1
  subst e; clear h0 h1; revert n; decide +kernel
theorem own_s4 {w : Int32} (h0 : 0 ≤ w.toInt) (h1 : w.toInt < 5) : own_len (240 ||| w).toInt8.toInt32 = 4 := by
  obtain ⟨n, e⟩ := own_small (N := 5) h0 h1
  subst e; clear h0 h1; revert n; decide +kernel
theorem own_cp (y : Int32) : 0 ≤ ((y &&& 2147483647) % 1114112).toInt ∧ ((y &&& 2147483647) % 1114112).toInt < 1114112 := by
  have h := c_mask y 2147483647 31 (by decide) (by decide)
  have h2 := (c_irem (y &&& 2147483647) 1114112 1114112 (by decide)).1 (by omega)
  omega
theorem d1_0 : decode prog_58_method_3_code 0 = .ok (.iload_n 0, 1) := by decide +kernel
theorem d1_1 : decode prog_58_method_3_code 1 = .ok (.sipush 255, 3) := by decide +kernel
theorem d1_4 : decode prog_58_method_3_code 4 = .ok (.iand, 1) := by decide +kernel
theorem d1_5 : decode prog_58_method_3_code 5 = .ok (.istore_n 1, 1) := by decide +kernel
theorem d1_6 : decode prog_58_method_3_code 6 = .ok (.iload_n 1, 1) := by decide +kernel
theorem d1_7 : decode prog_58_method_3_code 7 = .ok (.sipush 128, 3) := by decide +kernel
theorem d1_10 : decode prog_58_method_3_code 10 = .ok (.if_icmp .ge 5, 3) := by decide +kernel
theorem d1_13 : decode prog_58_method_3_code 13 = .ok (.iconst 1, 1) := by decide +kernel
theorem d1_14 : decode prog_58_method_3_code 14 = .ok (.ireturn, 1) := by decide +kernel
theorem d1_15 : decode prog_58_method_3_code 15 = .ok (.iload_n 1, 1) := by decide +kernel
theorem d1_16 : decode prog_58_method_3_code 16 = .ok (.sipush 224, 3) := by decide +kernel
theorem d1_19 : decode prog_58_method_3_code 19 = .ok (.if_icmp .ge 5, 3) := by decide +kernel
theorem d1_22 : decode prog_58_method_3_code 22 = .ok (.iconst 2, 1) := by decide +kernel
theorem d1_23 : decode prog_58_method_3_code 23 = .ok (.ireturn, 1) := by decide +kernel
theorem d1_24 : decode prog_58_method_3_code 24 = .ok (.iload_n 1, 1) := by decide +kernel
theorem d1_25 : decode prog_58_method_3_code 25 = .ok (.sipush 240, 3) := by decide +kernel
theorem d1_28 : decode prog_58_method_3_code 28 = .ok (.if_icmp .ge 7, 3) := by decide +kernel
theorem d1_31 : decode prog_58_method_3_code 31 = .ok (.iconst 3, 1) := by decide +kernel
theorem d1_32 : decode prog_58_method_3_code 32 = .ok (.goto 4, 3) := by decide +kernel
theorem d1_35 : decode prog_58_method_3_code 35 = .ok (.iconst 4, 1) := by decide +kernel
theorem d1_36 : decode prog_58_method_3_code 36 = .ok (.ireturn, 1) := by decide +kernel
theorem own_pn0 : plainName "com/example/pipehat/pipehat/Utf8" = true := by first | (simp [plainName, overriddenIn]; done) | decide +kernel
theorem ef_rmL (m : MethodId) (x0 : Int32) : entryFrame m #[(.int x0)] 2 = mkF m 0 #[.val (.int x0), .unset] [] := by first | (simp [entryFrame, mkF, argsToLocals, Value.category]; done) | rfl
def Q_rmL (Z : State) (i0 : Int32) (h0 : Heap) (n0 : Nat) (v : Option Value) (h : Heap) (L : List Loc) : Prop := v = some (.int (own_len i0)) ∧ Fr n0 L ∧ h = h0
set_option maxRecDepth 65536 in
set_option maxHeartbeats 40000000 in
theorem rmL (l : Launch) (Z : State) (a0 : Array Value) (hw : ∀ d ∈ tables_1, d.before a0 Z = true) (ws : List Jvm.Cond) (i0 : Int32) (h0 : Heap) (n0 : Nat) (Z0 : n0 ≤ h0.size)  :
    MetFree l (⟨"com/example/pipehat/pipehat/Utf8", "length", "(B)I"⟩ : MethodName) (head1 (Jvm.Cond.code (⟨"com/example/pipehat/pipehat/Utf8", "length", "(B)I"⟩ : MethodName) prog_58_method_3_code 2 (some .int) :: ws) ({ frames := 0, cells := 0, slots := 0, locals := 0 } : Room)) (fun a U => a = #[(.int i0)] ∧ Z.Warmed39 U.vm ∧ U.heap = h0) (fun _ _ _ _ _ => True) (fun _ U o U' => ∃ v L, o = .returned v ∧ Q_rmL Z i0 h0 n0 v U'.heap L ∧ FrameEnd U o U' L ({ frames := 0, cells := 0, slots := 0, locals := 0 } : Room).cells ({ frames := 0, cells := 0, slots := 0, locals := 0 } : Room).slots) := by
  refine MetFree.of_bodySF (plainFor_of_name own_pn0) hisR ?_
  intro p e s m args below meth c s₁ Bd hml0 hP hK
  obtain ⟨rfl, hZ, hh⟩ := hP
  have hx := Bd.exec
  have hby := Bd.bytes
  have hml : c.maxLocals = 2 := hml0
  have hown : s.vm.findClass "com/example/pipehat/pipehat/Utf8" = some m.cls := findClass_of_methodNamed Bd.named
  have hnm := (name_of_methodNamed Bd.named Bd.method).1
  have X0 : Stand p l e ({ frames := 0, cells := 0, slots := 0, locals := 0 } : Room) s m #[(.int i0)] below meth c s₁ [] 0 0 := Stand.of_body Bd
  have e0 : s₁.heap = h0 := by rw [← hh, Bd.state]; rfl
  show own_Go p e below (s₁.setTop (entryFrame m #[(.int i0)] 2)) (fun t o => ∃ v L, o = .returned v ∧ Q_rmL Z i0 h0 n0 v t.heap L ∧ FrameEnd s o t L ({ frames := 0, cells := 0, slots := 0, locals := 0 } : Room).cells ({ frames := 0, cells := 0, slots := 0, locals := 0 } : Room).slots)
  refine own_by (B := s₁.setTop (mkF m 0 #[.val (.int i0), .unset] [])) (fun t k => castTop (ef_rmL m i0) k) ?_
  have Nf := Fr.nil n0
  have Zs := Z0
  refine own_by (B := s₁.setTop (mkF m 1 #[.val (.int i0), .unset] [(.int i0)])) (fun t k => XS.iloadN X0.here hx rfl (hb hby d1_0) rfl k) ?_
  refine own_by (B := s₁.setTop (mkF m 4 #[.val (.int i0), .unset] [(.int (255 : Int32)), (.int i0)])) (fun t k => XS.sipush X0.here hx rfl (hb hby d1_1) k) ?_
  refine own_by (B := s₁.setTop (mkF m 5 #[.val (.int i0), .unset] [(.int (i0 &&& (255 : Int32)))])) (fun t k => XS.iand X0.here hx rfl (hb hby d1_4) rfl k) ?_
  refine own_by (B := s₁.setTop (mkF m 6 #[.val (.int i0), .val (.int (i0 &&& (255 : Int32)))] [])) (fun t k => XS.istoreN X0.here hx rfl (hb hby d1_5) rfl (l' := #[.val (.int i0), .val (.int (i0 &&& (255 : Int32)))]) rfl k) ?_
  refine own_by (B := s₁.setTop (mkF m 7 #[.val (.int i0), .val (.int (i0 &&& (255 : Int32)))] [(.int (i0 &&& (255 : Int32)))])) (fun t k => XS.iloadN X0.here hx rfl (hb hby d1_6) rfl k) ?_
  refine own_by (B := s₁.setTop (mkF m 10 #[.val (.int i0), .val (.int (i0 &&& (255 : Int32)))] [(.int (128 : Int32)), (.int (i0 &&& (255 : Int32)))])) (fun t k => XS.sipush X0.here hx rfl (hb hby d1_7) k) ?_
  by_cases hc10 : (i0 &&& (255 : Int32)) < (128 : Int32)
  · refine own_by (B := s₁.setTop (mkF m 13 #[.val (.int i0), .val (.int (i0 &&& (255 : Int32)))] [])) (fun t k => XS.icmpNo X0.here hx rfl (hb hby d1_10) rfl (tlt hc10).2.1 k) ?_
    refine own_by (B := s₁.setTop (mkF m 14 #[.val (.int i0), .val (.int (i0 &&& (255 : Int32)))] [(.int (1 : Int32))])) (fun t k => XS.iconst X0.here hx rfl (hb hby d1_13) k) ?_
    exact own_end X0 (v := some (.int (1 : Int32))) (fun h => by rw [Bd.returns] at h; cases h) (BodyLoose.notSynchronized Bd) (Q := (Q_rmL Z i0 h0 n0)) (fun fs hr => retI X0 hx Bd.returns (hb hby d1_14) hr) (show (Q_rmL Z i0 h0 n0) _ s₁.heap _ from (by rw [e0]; exact ⟨congrArg (fun z => some (Value.int z)) (by simp [own_len, hc10]), Nf, rfl⟩)) (by decide) (by decide)
  · refine own_by (B := s₁.setTop (mkF m 15 #[.val (.int i0), .val (.int (i0 &&& (255 : Int32)))] [])) (fun t k => XS.icmpYes X0.here hx rfl (pc0 := 10) (pc' := 15) rfl (hb hby d1_10) rfl (flt hc10).2.1 (by decide) (by decide) k) ?_
    refine own_by (B := s₁.setTop (mkF m 16 #[.val (.int i0), .val (.int (i0 &&& (255 : Int32)))] [(.int (i0 &&& (255 : Int32)))])) (fun t k => XS.iloadN X0.here hx rfl (hb hby d1_15) rfl k) ?_
    refine own_by (B := s₁.setTop (mkF m 19 #[.val (.int i0), .val (.int (i0 &&& (255 : Int32)))] [(.int (224 : Int32)), (.int (i0 &&& (255 : Int32)))])) (fun t k => XS.sipush X0.here hx rfl (hb hby d1_16) k) ?_
    by_cases hc19 : (i0 &&& (255 : Int32)) < (224 : Int32)
    · refine own_by (B := s₁.setTop (mkF m 22 #[.val (.int i0), .val (.int (i0 &&& (255 : Int32)))] [])) (fun t k => XS.icmpNo X0.here hx rfl (hb hby d1_19) rfl (tlt hc19).2.1 k) ?_
      refine own_by (B := s₁.setTop (mkF m 23 #[.val (.int i0), .val (.int (i0 &&& (255 : Int32)))] [(.int (2 : Int32))])) (fun t k => XS.iconst X0.here hx rfl (hb hby d1_22) k) ?_
      exact own_end X0 (v := some (.int (2 : Int32))) (fun h => by rw [Bd.returns] at h; cases h) (BodyLoose.notSynchronized Bd) (Q := (Q_rmL Z i0 h0 n0)) (fun fs hr => retI X0 hx Bd.returns (hb hby d1_23) hr) (show (Q_rmL Z i0 h0 n0) _ s₁.heap _ from (by rw [e0]; exact ⟨congrArg (fun z => some (Value.int z)) (by simp [own_len, hc10, hc19]), Nf, rfl⟩)) (by decide) (by decide)
    · refine own_by (B := s₁.setTop (mkF m 24 #[.val (.int i0), .val (.int (i0 &&& (255 : Int32)))] [])) (fun t k => XS.icmpYes X0.here hx rfl (pc0 := 19) (pc' := 24) rfl (hb hby d1_19) rfl (flt hc19).2.1 (by decide) (by decide) k) ?_
      refine own_by (B := s₁.setTop (mkF m 25 #[.val (.int i0), .val (.int (i0 &&& (255 : Int32)))] [(.int (i0 &&& (255 : Int32)))])) (fun t k => XS.iloadN X0.here hx rfl (hb hby d1_24) rfl k) ?_
      refine own_by (B := s₁.setTop (mkF m 28 #[.val (.int i0), .val (.int (i0 &&& (255 : Int32)))] [(.int (240 : Int32)), (.int (i0 &&& (255 : Int32)))])) (fun t k => XS.sipush X0.here hx rfl (hb hby d1_25) k) ?_
      by_cases hc28 : (i0 &&& (255 : Int32)) < (240 : Int32)
      · refine own_by (B := s₁.setTop (mkF m 31 #[.val (.int i0), .val (.int (i0 &&& (255 : Int32)))] [])) (fun t k => XS.icmpNo X0.here hx rfl (hb hby d1_28) rfl (tlt hc28).2.1 k) ?_
        refine own_by (B := s₁.setTop (mkF m 32 #[.val (.int i0), .val (.int (i0 &&& (255 : Int32)))] [(.int (3 : Int32))])) (fun t k => XS.iconst X0.here hx rfl (hb hby d1_31) k) ?_
        refine own_by (B := s₁.setTop (mkF m 36 #[.val (.int i0), .val (.int (i0 &&& (255 : Int32)))] [(.int (3 : Int32))])) (fun t k => XS.goto X0.here hx rfl (pc0 := 32) (pc' := 36) rfl (hb hby d1_32) (by decide) (by decide) k) ?_
        exact own_end X0 (v := some (.int (3 : Int32))) (fun h => by rw [Bd.returns] at h; cases h) (BodyLoose.notSynchronized Bd) (Q := (Q_rmL Z i0 h0 n0)) (fun fs hr => retI X0 hx Bd.returns (hb hby d1_36) hr) (show (Q_rmL Z i0 h0 n0) _ s₁.heap _ from (by rw [e0]; exact ⟨congrArg (fun z => some (Value.int z)) (by simp [own_len, hc10, hc19, hc28]), Nf, rfl⟩)) (by decide) (by decide)
      · refine own_by (B := s₁.setTop (mkF m 35 #[.val (.int i0), .val (.int (i0 &&& (255 : Int32)))] [])) (fun t k => XS.icmpYes X0.here hx rfl (pc0 := 28) (pc' := 35) rfl (hb hby d1_28) rfl (flt hc28).2.1 (by decide) (by decide) k) ?_
        refine own_by (B := s₁.setTop (mkF m 36 #[.val (.int i0), .val (.int (i0 &&& (255 : Int32)))] [(.int (4 : Int32))])) (fun t k => XS.iconst X0.here hx rfl (hb hby d1_35) k) ?_
        exact own_end X0 (v := some (.int (4 : Int32))) (fun h => by rw [Bd.returns] at h; cases h) (BodyLoose.notSynchronized Bd) (Q := (Q_rmL Z i0 h0 n0)) (fun fs hr => retI X0 hx Bd.returns (hb hby d1_36) hr) (show (Q_rmL Z i0 h0 n0) _ s₁.heap _ from (by rw [e0]; exact ⟨congrArg (fun z => some (Value.int z)) (by simp [own_len, hc10, hc19, hc28]), Nf, rfl⟩)) (by decide) (by decide)
theorem d2_0 : decode method_2_code 0 = .ok (.iload_n 0, 1) := by decide +kernel
theorem d2_1 : decode method_2_code 1 = .ok (.sipush 128, 3) := by decide +kernel
theorem d2_4 : decode method_2_code 4 = .ok (.iand, 1) := by decide +kernel
theorem d2_5 : decode method_2_code 5 = .ok (.ifCond .ne 5, 3) := by decide +kernel
theorem d2_8 : decode method_2_code 8 = .ok (.iconst 1, 1) := by decide +kernel
theorem d2_9 : decode method_2_code 9 = .ok (.ireturn, 1) := by decide +kernel
theorem d2_10 : decode method_2_code 10 = .ok (.iload_n 0, 1) := by decide +kernel
theorem d2_11 : decode method_2_code 11 = .ok (.bipush 64, 2) := by decide +kernel
theorem d2_13 : decode method_2_code 13 = .ok (.iand, 1) := by decide +kernel
theorem d2_14 : decode method_2_code 14 = .ok (.ifCond .ne 5, 3) := by decide +kernel
theorem d2_17 : decode method_2_code 17 = .ok (.iconst 2, 1) := by decide +kernel
theorem d2_18 : decode method_2_code 18 = .ok (.ireturn, 1) := by decide +kernel
theorem d2_19 : decode method_2_code 19 = .ok (.iload_n 0, 1) := by decide +kernel
theorem d2_20 : decode method_2_code 20 = .ok (.bipush 32, 2) := by decide +kernel
theorem d2_22 : decode method_2_code 22 = .ok (.iand, 1) := by decide +kernel
theorem d2_23 : decode method_2_code 23 = .ok (.ifCond .ne 5, 3) := by decide +kernel
theorem d2_26 : decode method_2_code 26 = .ok (.iconst 2, 1) := by decide +kernel
theorem d2_27 : decode method_2_code 27 = .ok (.ireturn, 1) := by decide +kernel
theorem d2_28 : decode method_2_code 28 = .ok (.iload_n 0, 1) := by decide +kernel
theorem d2_29 : decode method_2_code 29 = .ok (.bipush 16, 2) := by decide +kernel
theorem d2_31 : decode method_2_code 31 = .ok (.iand, 1) := by decide +kernel
theorem d2_32 : decode method_2_code 32 = .ok (.ifCond .ne 5, 3) := by decide +kernel
theorem d2_35 : decode method_2_code 35 = .ok (.iconst 3, 1) := by decide +kernel
theorem d2_36 : decode method_2_code 36 = .ok (.ireturn, 1) := by decide +kernel
theorem d2_37 : decode method_2_code 37 = .ok (.iconst 4, 1) := by decide +kernel
theorem d2_38 : decode method_2_code 38 = .ok (.ireturn, 1) := by decide +kernel
theorem own_pn1 : plainName "com/example/pipehat/pipehat/Utf8LengthPinLaw" = true := by first | (simp [plainName, overriddenIn]; done) | decide +kernel
theorem ef_rmB (m : MethodId) (x0 : Int32) : entryFrame m #[(.int x0)] 1 = mkF m 0 #[.val (.int x0)] [] := by first | (simp [entryFrame, mkF, argsToLocals, Value.category]; done) | rfl
def Q_rmB (Z : State) (i0 : Int32) (h0 : Heap) (n0 : Nat) (v : Option Value) (h : Heap) (L : List Loc) : Prop := v = some (.int (own_bits i0)) ∧ Fr n0 L ∧ h = h0
set_option maxRecDepth 65536 in
set_option maxHeartbeats 40000000 in
theorem rmB (l : Launch) (Z : State) (a0 : Array Value) (hw : ∀ d ∈ tables_1, d.before a0 Z = true) (ws : List Jvm.Cond) (i0 : Int32) (h0 : Heap) (n0 : Nat) (Z0 : n0 ≤ h0.size)  :
    MetFree l (⟨"com/example/pipehat/pipehat/Utf8LengthPinLaw", "byBits", "(I)I"⟩ : MethodName) (head1 (Jvm.Cond.code (⟨"com/example/pipehat/pipehat/Utf8LengthPinLaw", "byBits", "(I)I"⟩ : MethodName) method_2_code 1 (some .int) :: ws) ({ frames := 0, cells := 0, slots := 0, locals := 0 } : Room)) (fun a U => a = #[(.int i0)] ∧ Z.Warmed39 U.vm ∧ U.heap = h0) (fun _ _ _ _ _ => True) (fun _ U o U' => ∃ v L, o = .returned v ∧ Q_rmB Z i0 h0 n0 v U'.heap L ∧ FrameEnd U o U' L ({ frames := 0, cells := 0, slots := 0, locals := 0 } : Room).cells ({ frames := 0, cells := 0, slots := 0, locals := 0 } : Room).slots) := by
  refine MetFree.of_bodySF (plainFor_of_name own_pn1) hisR ?_
  intro p e s m args below meth c s₁ Bd hml0 hP hK
  obtain ⟨rfl, hZ, hh⟩ := hP
  have hx := Bd.exec
  have hby := Bd.bytes
  have hml : c.maxLocals = 1 := hml0
  have hown : s.vm.findClass "com/example/pipehat/pipehat/Utf8LengthPinLaw" = some m.cls := findClass_of_methodNamed Bd.named
  have hnm := (name_of_methodNamed Bd.named Bd.method).1
  have X0 : Stand p l e ({ frames := 0, cells := 0, slots := 0, locals := 0 } : Room) s m #[(.int i0)] below meth c s₁ [] 0 0 := Stand.of_body Bd
  have e0 : s₁.heap = h0 := by rw [← hh, Bd.state]; rfl
  show own_Go p e below (s₁.setTop (entryFrame m #[(.int i0)] 1)) (fun t o => ∃ v L, o = .returned v ∧ Q_rmB Z i0 h0 n0 v t.heap L ∧ FrameEnd s o t L ({ frames := 0, cells := 0, slots := 0, locals := 0 } : Room).cells ({ frames := 0, cells := 0, slots := 0, locals := 0 } : Room).slots)
  refine own_by (B := s₁.setTop (mkF m 0 #[.val (.int i0)] [])) (fun t k => castTop (ef_rmB m i0) k) ?_
  have Nf := Fr.nil n0
  have Zs := Z0
  refine own_by (B := s₁.setTop (mkF m 1 #[.val (.int i0)] [(.int i0)])) (fun t k => XS.iloadN X0.here hx rfl (hb hby d2_0) rfl k) ?_
  refine own_by (B := s₁.setTop (mkF m 4 #[.val (.int i0)] [(.int (128 : Int32)), (.int i0)])) (fun t k => XS.sipush X0.here hx rfl (hb hby d2_1) k) ?_
  refine own_by (B := s₁.setTop (mkF m 5 #[.val (.int i0)] [(.int (i0 &&& (128 : Int32)))])) (fun t k => XS.iand X0.here hx rfl (hb hby d2_4) rfl k) ?_
  by_cases hc5 : (i0 &&& (128 : Int32)) = (0 : Int32)
  · refine own_by (B := s₁.setTop (mkF m 8 #[.val (.int i0)] [])) (fun t k => XS.ifNo X0.here hx rfl (hb hby d2_5) rfl ((if0 _ _).trans (teq hc5).2) k) ?_
    refine own_by (B := s₁.setTop (mkF m 9 #[.val (.int i0)] [(.int (1 : Int32))])) (fun t k => XS.iconst X0.here hx rfl (hb hby d2_8) k) ?_
    exact own_end X0 (v := some (.int (1 : Int32))) (fun h => by rw [Bd.returns] at h; cases h) (BodyLoose.notSynchronized Bd) (Q := (Q_rmB Z i0 h0 n0)) (fun fs hr => retI X0 hx Bd.returns (hb hby d2_9) hr) (show (Q_rmB Z i0 h0 n0) _ s₁.heap _ from (by rw [e0]; exact ⟨congrArg (fun z => some (Value.int z)) (by simp [own_bits, hc5]), Nf, rfl⟩)) (by decide) (by decide)
  · refine own_by (B := s₁.setTop (mkF m 10 #[.val (.int i0)] [])) (fun t k => XS.ifYes X0.here hx rfl (pc0 := 5) (pc' := 10) rfl (hb hby d2_5) rfl ((if0 _ _).trans (feq hc5).2) (by decide) (by decide) k) ?_
    refine own_by (B := s₁.setTop (mkF m 11 #[.val (.int i0)] [(.int i0)])) (fun t k => XS.iloadN X0.here hx rfl (hb hby d2_10) rfl k) ?_
    refine own_by (B := s₁.setTop (mkF m 13 #[.val (.int i0)] [(.int (64 : Int32)), (.int i0)])) (fun t k => XS.bipush X0.here hx rfl (hb hby d2_11) k) ?_
    refine own_by (B := s₁.setTop (mkF m 14 #[.val (.int i0)] [(.int (i0 &&& (64 : Int32)))])) (fun t k => XS.iand X0.here hx rfl (hb hby d2_13) rfl k) ?_
    by_cases hc14 : (i0 &&& (64 : Int32)) = (0 : Int32)
    · refine own_by (B := s₁.setTop (mkF m 17 #[.val (.int i0)] [])) (fun t k => XS.ifNo X0.here hx rfl (hb hby d2_14) rfl ((if0 _ _).trans (teq hc14).2) k) ?_
      refine own_by (B := s₁.setTop (mkF m 18 #[.val (.int i0)] [(.int (2 : Int32))])) (fun t k => XS.iconst X0.here hx rfl (hb hby d2_17) k) ?_
      exact own_end X0 (v := some (.int (2 : Int32))) (fun h => by rw [Bd.returns] at h; cases h) (BodyLoose.notSynchronized Bd) (Q := (Q_rmB Z i0 h0 n0)) (fun fs hr => retI X0 hx Bd.returns (hb hby d2_18) hr) (show (Q_rmB Z i0 h0 n0) _ s₁.heap _ from (by rw [e0]; exact ⟨congrArg (fun z => some (Value.int z)) (by simp [own_bits, hc5, hc14]), Nf, rfl⟩)) (by decide) (by decide)
    · refine own_by (B := s₁.setTop (mkF m 19 #[.val (.int i0)] [])) (fun t k => XS.ifYes X0.here hx rfl (pc0 := 14) (pc' := 19) rfl (hb hby d2_14) rfl ((if0 _ _).trans (feq hc14).2) (by decide) (by decide) k) ?_
      refine own_by (B := s₁.setTop (mkF m 20 #[.val (.int i0)] [(.int i0)])) (fun t k => XS.iloadN X0.here hx rfl (hb hby d2_19) rfl k) ?_
      refine own_by (B := s₁.setTop (mkF m 22 #[.val (.int i0)] [(.int (32 : Int32)), (.int i0)])) (fun t k => XS.bipush X0.here hx rfl (hb hby d2_20) k) ?_
      refine own_by (B := s₁.setTop (mkF m 23 #[.val (.int i0)] [(.int (i0 &&& (32 : Int32)))])) (fun t k => XS.iand X0.here hx rfl (hb hby d2_22) rfl k) ?_
      by_cases hc23 : (i0 &&& (32 : Int32)) = (0 : Int32)
      · refine own_by (B := s₁.setTop (mkF m 26 #[.val (.int i0)] [])) (fun t k => XS.ifNo X0.here hx rfl (hb hby d2_23) rfl ((if0 _ _).trans (teq hc23).2) k) ?_
        refine own_by (B := s₁.setTop (mkF m 27 #[.val (.int i0)] [(.int (2 : Int32))])) (fun t k => XS.iconst X0.here hx rfl (hb hby d2_26) k) ?_
        exact own_end X0 (v := some (.int (2 : Int32))) (fun h => by rw [Bd.returns] at h; cases h) (BodyLoose.notSynchronized Bd) (Q := (Q_rmB Z i0 h0 n0)) (fun fs hr => retI X0 hx Bd.returns (hb hby d2_27) hr) (show (Q_rmB Z i0 h0 n0) _ s₁.heap _ from (by rw [e0]; exact ⟨congrArg (fun z => some (Value.int z)) (by simp [own_bits, hc5, hc14, hc23]), Nf, rfl⟩)) (by decide) (by decide)
      · refine own_by (B := s₁.setTop (mkF m 28 #[.val (.int i0)] [])) (fun t k => XS.ifYes X0.here hx rfl (pc0 := 23) (pc' := 28) rfl (hb hby d2_23) rfl ((if0 _ _).trans (feq hc23).2) (by decide) (by decide) k) ?_
        refine own_by (B := s₁.setTop (mkF m 29 #[.val (.int i0)] [(.int i0)])) (fun t k => XS.iloadN X0.here hx rfl (hb hby d2_28) rfl k) ?_
        refine own_by (B := s₁.setTop (mkF m 31 #[.val (.int i0)] [(.int (16 : Int32)), (.int i0)])) (fun t k => XS.bipush X0.here hx rfl (hb hby d2_29) k) ?_
        refine own_by (B := s₁.setTop (mkF m 32 #[.val (.int i0)] [(.int (i0 &&& (16 : Int32)))])) (fun t k => XS.iand X0.here hx rfl (hb hby d2_31) rfl k) ?_
        by_cases hc32 : (i0 &&& (16 : Int32)) = (0 : Int32)
        · refine own_by (B := s₁.setTop (mkF m 35 #[.val (.int i0)] [])) (fun t k => XS.ifNo X0.here hx rfl (hb hby d2_32) rfl ((if0 _ _).trans (teq hc32).2) k) ?_
          refine own_by (B := s₁.setTop (mkF m 36 #[.val (.int i0)] [(.int (3 : Int32))])) (fun t k => XS.iconst X0.here hx rfl (hb hby d2_35) k) ?_
          exact own_end X0 (v := some (.int (3 : Int32))) (fun h => by rw [Bd.returns] at h; cases h) (BodyLoose.notSynchronized Bd) (Q := (Q_rmB Z i0 h0 n0)) (fun fs hr => retI X0 hx Bd.returns (hb hby d2_36) hr) (show (Q_rmB Z i0 h0 n0) _ s₁.heap _ from (by rw [e0]; exact ⟨congrArg (fun z => some (Value.int z)) (by simp [own_bits, hc5, hc14, hc23, hc32]), Nf, rfl⟩)) (by decide) (by decide)
        · refine own_by (B := s₁.setTop (mkF m 37 #[.val (.int i0)] [])) (fun t k => XS.ifYes X0.here hx rfl (pc0 := 32) (pc' := 37) rfl (hb hby d2_32) rfl ((if0 _ _).trans (feq hc32).2) (by decide) (by decide) k) ?_
          refine own_by (B := s₁.setTop (mkF m 38 #[.val (.int i0)] [(.int (4 : Int32))])) (fun t k => XS.iconst X0.here hx rfl (hb hby d2_37) k) ?_
          exact own_end X0 (v := some (.int (4 : Int32))) (fun h => by rw [Bd.returns] at h; cases h) (BodyLoose.notSynchronized Bd) (Q := (Q_rmB Z i0 h0 n0)) (fun fs hr => retI X0 hx Bd.returns (hb hby d2_38) hr) (show (Q_rmB Z i0 h0 n0) _ s₁.heap _ from (by rw [e0]; exact ⟨congrArg (fun z => some (Value.int z)) (by simp [own_bits, hc5, hc14, hc23, hc32]), Nf, rfl⟩)) (by decide) (by decide)
theorem own_pd0 : parseMethodDescriptor "(B)I" = some ⟨[.byte], some .int⟩ := by decide +kernel
theorem own_pd1 : parseMethodDescriptor "(I)I" = some ⟨[.int], some .int⟩ := by decide +kernel
theorem ef_rm0 (m : MethodId) (x0 : Int32) (x1 : Int32) : entryFrame m #[(.int x0), (.int x1)] maxLocals = mkF m 0 #[.val (.int x0), .val (.int x1), .unset, .unset, .unset, .unset, .unset, .unset] [] := by first | (simp [entryFrame, mkF, argsToLocals, Value.category, maxLocals]; done) | rfl
def Q_rm0 (Z : State) (i0 : Int32) (i1 : Int32) (h0 : Heap) (n0 : Nat) (v : Option Value) (h : Heap) (L : List Loc) : Prop := v = some (.int 1) ∧ Fr n0 L
set_option maxRecDepth 65536 in
set_option maxHeartbeats 40000000 in
theorem rm0 (l : Launch) (Z : State) (a0 : Array Value) (hw : ∀ d ∈ tables_1, d.before a0 Z = true) (ws : List Jvm.Cond) (i0 : Int32) (i1 : Int32) (h0 : Heap) (n0 : Nat) (Z0 : n0 ≤ h0.size)  :
    MetFree l x (head1 (Jvm.Cond.code x code maxLocals ret :: ws) room_1) (fun a U => a = #[(.int i0), (.int i1)] ∧ Z.Warmed39 U.vm ∧ U.heap = h0) (fun _ _ _ _ _ => True) (fun _ U o U' => ∃ v L, o = .returned v ∧ Q_rm0 Z i0 i1 h0 n0 v U'.heap L ∧ FrameEnd U o U' L room_1.cells room_1.slots) := by
  refine MetFree.of_bodySF (plainFor_of_name own_pn1) hisR ?_
  intro p e s m args below meth c s₁ Bd hml0 hP hK
  obtain ⟨rfl, hZ, hh⟩ := hP
  have hx := Bd.exec
  have hby := Bd.bytes
  have hml : c.maxLocals = 8 := hml0
  have hown : s.vm.findClass "com/example/pipehat/pipehat/Utf8LengthPinLaw" = some m.cls := findClass_of_methodNamed Bd.named
  have hnm := (name_of_methodNamed Bd.named Bd.method).1
  have X0 : Stand p l e room_1 s m #[(.int i0), (.int i1)] below meth c s₁ [] 0 0 := Stand.of_body Bd
  have e0 : s₁.heap = h0 := by rw [← hh, Bd.state]; rfl
  show own_Go p e below (s₁.setTop (entryFrame m #[(.int i0), (.int i1)] maxLocals)) (fun t o => ∃ v L, o = .returned v ∧ Q_rm0 Z i0 i1 h0 n0 v t.heap L ∧ FrameEnd s o t L room_1.cells room_1.slots)
  refine own_by (B := s₁.setTop (mkF m 0 #[.val (.int i0), .val (.int i1), .unset, .unset, .unset, .unset, .unset, .unset] [])) (fun t k => castTop (ef_rm0 m i0 i1) k) ?_
  have Nf := Fr.nil n0
  have Zs := Z0
  refine own_by (B := s₁.setTop (mkF m 1 #[.val (.int i0), .val (.int i1), .unset, .unset, .unset, .unset, .unset, .unset] [(.int i0)])) (fun t k => XS.iloadN X0.here hx rfl (hb hby at_0) rfl k) ?_
  refine own_by (B := s₁.setTop (mkF m 2 #[.val (.int i0), .val (.int i1), .unset, .unset, .unset, .unset, .unset, .unset] [(.int (i0.toInt8.toInt32))])) (fun t k => XS.i2b X0.here hx rfl (hb hby at_1) rfl k) ?_
  refine own_by (B := s₁.setTop (mkF m 3 #[.val (.int i0), .val (.int i1), .val (.int (i0.toInt8.toInt32)), .unset, .unset, .unset, .unset, .unset] [])) (fun t k => XS.istoreN X0.here hx rfl (hb hby at_2) rfl (l' := #[.val (.int i0), .val (.int i1), .val (.int (i0.toInt8.toInt32)), .unset, .unset, .unset, .unset, .unset]) rfl k) ?_
  refine own_by (B := s₁.setTop (mkF m 4 #[.val (.int i0), .val (.int i1), .val (.int (i0.toInt8.toInt32)), .unset, .unset, .unset, .unset, .unset] [(.int (i0.toInt8.toInt32))])) (fun t k => XS.iloadN X0.here hx rfl (hb hby at_3) rfl k) ?_
  obtain ⟨_, _, ⟨T1, L1, k1, n1⟩, -, X1, ⟨Lc1, hQ1, l1, y1, z1⟩, st1⟩ := Jvm.LawKit.callS X0 hx (y := (⟨"com/example/pipehat/pipehat/Utf8", "length", "(B)I"⟩ : MethodName)) hown (mvT hZ (hw _ (List.mem_of_getElem? (i := 0) rfl))) (mvT hZ (hw _ (List.mem_of_getElem? (i := 1) rfl))) (mvT hZ (hw _ (List.mem_of_getElem? (i := 2) rfl))) (mvT hZ (hw _ (List.mem_of_getElem? (i := 3) rfl))) (by decide) (backOf (W := 0) (rmL l Z a0 hw [] (i0.toInt8.toInt32) h0 n0 Zs) hZ (hw _ (List.mem_of_getElem? (i := 3) rfl)) (hw _ (List.mem_of_getElem? (i := 2) rfl)) (by decide) (by decide)) (g := (mkF m 4 #[.val (.int i0), .val (.int i1), .val (.int (i0.toInt8.toInt32)), .unset, .unset, .unset, .unset, .unset] [(.int (i0.toInt8.toInt32))])) rfl (by rw [hml]; rfl) (argsL := [(.int (i0.toInt8.toInt32))]) (rest := []) (lenOf own_pd0 rfl) rfl (by show 2 * 0 + _ ≤ _; exact Nat.le_of_eq rfl) (hb hby at_4) (fun _ _ => ⟨rfl, e0, (by decide : 0 + 0 ≤ _), (by decide : 0 + 0 ≤ _)⟩)
  dsimp only [Pt.U, Pt.locs, Pt.cells, Pt.slots] at X1 l1 y1 z1 st1 hQ1
  subst l1 y1 z1
  obtain ⟨rfl, Nq1, hp1⟩ := hQ1
  have Nf := Fr.app Nf Nq1
  have ec1 : T1.heap = h0 := hp1
  refine own_by (B := T1.setTop (mkF m 7 #[.val (.int i0), .val (.int i1), .val (.int (i0.toInt8.toInt32)), .unset, .unset, .unset, .unset, .unset] [(.int (own_len (i0.toInt8.toInt32)))])) st1 ?_
  refine own_by (B := T1.setTop (mkF m 8 #[.val (.int i0), .val (.int i1), .val (.int (i0.toInt8.toInt32)), .unset, .unset, .unset, .unset, .unset] [(.int i0), (.int (own_len (i0.toInt8.toInt32)))])) (fun t k => XS.iloadN X1.here hx rfl (hb hby at_7) rfl k) ?_
  refine own_by (B := T1.setTop (mkF m 11 #[.val (.int i0), .val (.int i1), .val (.int (i0.toInt8.toInt32)), .unset, .unset, .unset, .unset, .unset] [(.int (255 : Int32)), (.int i0), (.int (own_len (i0.toInt8.toInt32)))])) (fun t k => XS.sipush X1.here hx rfl (hb hby at_8) k) ?_
  refine own_by (B := T1.setTop (mkF m 12 #[.val (.int i0), .val (.int i1), .val (.int (i0.toInt8.toInt32)), .unset, .unset, .unset, .unset, .unset] [(.int (i0 &&& (255 : Int32))), (.int (own_len (i0.toInt8.toInt32)))])) (fun t k => XS.iand X1.here hx rfl (hb hby at_11) rfl k) ?_
  obtain ⟨_, _, ⟨T2, L2, k2, n2⟩, -, X2, ⟨Lc2, hQ2, l2, y2, z2⟩, st2⟩ := Jvm.LawKit.callS X1 hx (y := (⟨"com/example/pipehat/pipehat/Utf8LengthPinLaw", "byBits", "(I)I"⟩ : MethodName)) hown (mvT hZ (hw _ (List.mem_of_getElem? (i := 4) rfl))) (mvT hZ (hw _ (List.mem_of_getElem? (i := 5) rfl))) (mvT hZ (hw _ (List.mem_of_getElem? (i := 6) rfl))) (mvT hZ (hw _ (List.mem_of_getElem? (i := 7) rfl))) (by decide) (backOf (W := 1) (rmB l Z a0 hw [] (i0 &&& (255 : Int32)) h0 n0 Zs) hZ (hw _ (List.mem_of_getElem? (i := 7) rfl)) (hw _ (List.mem_of_getElem? (i := 6) rfl)) (by decide) (by decide)) (g := (mkF m 12 #[.val (.int i0), .val (.int i1), .val (.int (i0.toInt8.toInt32)), .unset, .unset, .unset, .unset, .unset] [(.int (i0 &&& (255 : Int32))), (.int (own_len (i0.toInt8.toInt32)))])) rfl (by rw [hml]; rfl) (argsL := [(.int (i0 &&& (255 : Int32)))]) (rest := [(.int (own_len (i0.toInt8.toInt32)))]) (lenOf own_pd1 rfl) rfl (by show 2 * 0 + _ ≤ _; exact Nat.le_of_eq rfl) (hb hby at_12) (fun _ _ => ⟨rfl, ec1, (by decide : 0 + 0 ≤ _), (by decide : 0 + 0 ≤ _)⟩)
  dsimp only [Pt.U, Pt.locs, Pt.cells, Pt.slots] at X2 l2 y2 z2 st2 hQ2
  subst l2 y2 z2
  obtain ⟨rfl, Nq2, hp2⟩ := hQ2
  have Nf := Fr.app Nf Nq2
  have ec2 : T2.heap = h0 := hp2
  refine own_by (B := T2.setTop (mkF m 15 #[.val (.int i0), .val (.int i1), .val (.int (i0.toInt8.toInt32)), .unset, .unset, .unset, .unset, .unset] [(.int (own_bits (i0 &&& (255 : Int32)))), (.int (own_len (i0.toInt8.toInt32)))])) st2 ?_
  refine own_by (B := T2.setTop (mkF m 18 #[.val (.int i0), .val (.int i1), .val (.int (i0.toInt8.toInt32)), .unset, .unset, .unset, .unset, .unset] [])) (fun t k => XS.icmpNo X2.here hx rfl (hb hby at_15) rfl (teq (own_first i0)).2 k) ?_
  refine own_by (B := T2.setTop (mkF m 19 #[.val (.int i0), .val (.int i1), .val (.int (i0.toInt8.toInt32)), .unset, .unset, .unset, .unset, .unset] [(.int (1 : Int32))])) (fun t k => XS.iconst X2.here hx rfl (hb hby at_18) k) ?_
  refine own_by (B := T2.setTop (mkF m 23 #[.val (.int i0), .val (.int i1), .val (.int (i0.toInt8.toInt32)), .unset, .unset, .unset, .unset, .unset] [(.int (1 : Int32))])) (fun t k => XS.goto X2.here hx rfl (pc0 := 19) (pc' := 23) rfl (hb hby at_19) (by decide) (by decide) k) ?_
  refine own_by (B := T2.setTop (mkF m 24 #[.val (.int i0), .val (.int i1), .val (.int (i0.toInt8.toInt32)), .val (.int (1 : Int32)), .unset, .unset, .unset, .unset] [])) (fun t k => XS.istoreN X2.here hx rfl (hb hby at_23) rfl (l' := #[.val (.int i0), .val (.int i1), .val (.int (i0.toInt8.toInt32)), .val (.int (1 : Int32)), .unset, .unset, .unset, .unset]) rfl k) ?_
  refine own_by (B := T2.setTop (mkF m 25 #[.val (.int i0), .val (.int i1), .val (.int (i0.toInt8.toInt32)), .val (.int (1 : Int32)), .unset, .unset, .unset, .unset] [(.int i1)])) (fun t k => XS.iloadN X2.here hx rfl (hb hby at_24) rfl k) ?_
  refine own_by (B := T2.setTop (mkF m 27 #[.val (.int i0), .val (.int i1), .val (.int (i0.toInt8.toInt32)), .val (.int (1 : Int32)), .unset, .unset, .unset, .unset] [(.int (2147483647 : Int32)), (.int i1)])) (fun t k => X2.ldcInt hx hown (mvT hZ (hw _ (List.mem_of_getElem? (i := 8) rfl))) (g := (mkF m 25 #[.val (.int i0), .val (.int i1), .val (.int (i0.toInt8.toInt32)), .val (.int (1 : Int32)), .unset, .unset, .unset, .unset] [(.int i1)])) rfl (hb hby at_25) _ k) ?_
  refine own_by (B := T2.setTop (mkF m 28 #[.val (.int i0), .val (.int i1), .val (.int (i0.toInt8.toInt32)), .val (.int (1 : Int32)), .unset, .unset, .unset, .unset] [(.int (i1 &&& (2147483647 : Int32)))])) (fun t k => XS.iand X2.here hx rfl (hb hby at_27) rfl k) ?_
  refine own_by (B := T2.setTop (mkF m 30 #[.val (.int i0), .val (.int i1), .val (.int (i0.toInt8.toInt32)), .val (.int (1 : Int32)), .unset, .unset, .unset, .unset] [(.int (1114112 : Int32)), (.int (i1 &&& (2147483647 : Int32)))])) (fun t k => X2.ldcInt hx hown (mvT hZ (hw _ (List.mem_of_getElem? (i := 9) rfl))) (g := (mkF m 28 #[.val (.int i0), .val (.int i1), .val (.int (i0.toInt8.toInt32)), .val (.int (1 : Int32)), .unset, .unset, .unset, .unset] [(.int (i1 &&& (2147483647 : Int32)))])) rfl (hb hby at_28) _ k) ?_
  refine own_by (B := T2.setTop (mkF m 31 #[.val (.int i0), .val (.int i1), .val (.int (i0.toInt8.toInt32)), .val (.int (1 : Int32)), .unset, .unset, .unset, .unset] [(.int ((i1 &&& (2147483647 : Int32)) % (1114112 : Int32)))])) (fun t k => iremM (g := (mkF m 30 #[.val (.int i0), .val (.int i1), .val (.int (i0.toInt8.toInt32)), .val (.int (1 : Int32)), .unset, .unset, .unset, .unset] [(.int (1114112 : Int32)), (.int (i1 &&& (2147483647 : Int32)))])) X2 hx rfl (hb hby at_30) rfl (by decide) k) ?_
  refine own_by (B := T2.setTop (mkF m 33 #[.val (.int i0), .val (.int i1), .val (.int (i0.toInt8.toInt32)), .val (.int (1 : Int32)), .val (.int ((i1 &&& (2147483647 : Int32)) % (1114112 : Int32))), .unset, .unset, .unset] [])) (fun t k => XS.istore X2.here hx rfl (hb hby at_31) rfl (l' := #[.val (.int i0), .val (.int i1), .val (.int (i0.toInt8.toInt32)), .val (.int (1 : Int32)), .val (.int ((i1 &&& (2147483647 : Int32)) % (1114112 : Int32))), .unset, .unset, .unset]) rfl k) ?_
  generalize h_cp : ((i1 &&& (2147483647 : Int32)) % (1114112 : Int32)) = cp
  have hcp : 0 ≤ cp.toInt ∧ cp.toInt < 1114112 := by rw [← h_cp]; exact own_cp i1
  refine own_by (B := T2.setTop (mkF m 35 #[.val (.int i0), .val (.int i1), .val (.int (i0.toInt8.toInt32)), .val (.int (1 : Int32)), .val (.int cp), .unset, .unset, .unset] [(.int cp)])) (fun t k => XS.iload X2.here hx rfl (hb hby at_33) rfl k) ?_
  refine own_by (B := T2.setTop (mkF m 38 #[.val (.int i0), .val (.int i1), .val (.int (i0.toInt8.toInt32)), .val (.int (1 : Int32)), .val (.int cp), .unset, .unset, .unset] [(.int (128 : Int32)), (.int cp)])) (fun t k => XS.sipush X2.here hx rfl (hb hby at_35) k) ?_
  by_cases hc38 : cp < (128 : Int32)
  · refine own_by (B := T2.setTop (mkF m 41 #[.val (.int i0), .val (.int i1), .val (.int (i0.toInt8.toInt32)), .val (.int (1 : Int32)), .val (.int cp), .unset, .unset, .unset] [])) (fun t k => XS.icmpNo X2.here hx rfl (hb hby at_38) rfl (tlt hc38).2.1 k) ?_
    refine own_by (B := T2.setTop (mkF m 42 #[.val (.int i0), .val (.int i1), .val (.int (i0.toInt8.toInt32)), .val (.int (1 : Int32)), .val (.int cp), .unset, .unset, .unset] [(.int (1 : Int32))])) (fun t k => XS.iconst X2.here hx rfl (hb hby at_41) k) ?_
    refine own_by (B := T2.setTop (mkF m 44 #[.val (.int i0), .val (.int i1), .val (.int (i0.toInt8.toInt32)), .val (.int (1 : Int32)), .val (.int cp), .val (.int (1 : Int32)), .unset, .unset] [])) (fun t k => XS.istore X2.here hx rfl (hb hby at_42) rfl (l' := #[.val (.int i0), .val (.int i1), .val (.int (i0.toInt8.toInt32)), .val (.int (1 : Int32)), .val (.int cp), .val (.int (1 : Int32)), .unset, .unset]) rfl k) ?_
    refine own_by (B := T2.setTop (mkF m 46 #[.val (.int i0), .val (.int i1), .val (.int (i0.toInt8.toInt32)), .val (.int (1 : Int32)), .val (.int cp), .val (.int (1 : Int32)), .unset, .unset] [(.int cp)])) (fun t k => XS.iload X2.here hx rfl (hb hby at_44) rfl k) ?_
    refine own_by (B := T2.setTop (mkF m 48 #[.val (.int i0), .val (.int i1), .val (.int (i0.toInt8.toInt32)), .val (.int (1 : Int32)), .val (.int cp), .val (.int (1 : Int32)), .val (.int cp), .unset] [])) (fun t k => XS.istore X2.here hx rfl (hb hby at_46) rfl (l' := #[.val (.int i0), .val (.int i1), .val (.int (i0.toInt8.toInt32)), .val (.int (1 : Int32)), .val (.int cp), .val (.int (1 : Int32)), .val (.int cp), .unset]) rfl k) ?_
    refine own_by (B := T2.setTop (mkF m 114 #[.val (.int i0), .val (.int i1), .val (.int (i0.toInt8.toInt32)), .val (.int (1 : Int32)), .val (.int cp), .val (.int (1 : Int32)), .val (.int cp), .unset] [])) (fun t k => XS.goto X2.here hx rfl (pc0 := 48) (pc' := 114) rfl (hb hby at_48) (by decide) (by decide) k) ?_
    refine own_by (B := T2.setTop (mkF m 116 #[.val (.int i0), .val (.int i1), .val (.int (i0.toInt8.toInt32)), .val (.int (1 : Int32)), .val (.int cp), .val (.int (1 : Int32)), .val (.int cp), .unset] [(.int cp)])) (fun t k => XS.iload X2.here hx rfl (hb hby at_114) rfl k) ?_
    refine own_by (B := T2.setTop (mkF m 117 #[.val (.int i0), .val (.int i1), .val (.int (i0.toInt8.toInt32)), .val (.int (1 : Int32)), .val (.int cp), .val (.int (1 : Int32)), .val (.int cp), .unset] [(.int (cp.toInt8.toInt32))])) (fun t k => XS.i2b X2.here hx rfl (hb hby at_116) rfl k) ?_
    obtain ⟨_, _, ⟨T3, L3, k3, n3⟩, -, X3, ⟨Lc3, hQ3, l3, y3, z3⟩, st3⟩ := Jvm.LawKit.callS X2 hx (y := (⟨"com/example/pipehat/pipehat/Utf8", "length", "(B)I"⟩ : MethodName)) hown (mvT hZ (hw _ (List.mem_of_getElem? (i := 0) rfl))) (mvT hZ (hw _ (List.mem_of_getElem? (i := 1) rfl))) (mvT hZ (hw _ (List.mem_of_getElem? (i := 2) rfl))) (mvT hZ (hw _ (List.mem_of_getElem? (i := 3) rfl))) (by decide) (backOf (W := 0) (rmL l Z a0 hw [] (cp.toInt8.toInt32) h0 n0 Zs) hZ (hw _ (List.mem_of_getElem? (i := 3) rfl)) (hw _ (List.mem_of_getElem? (i := 2) rfl)) (by decide) (by decide)) (g := (mkF m 117 #[.val (.int i0), .val (.int i1), .val (.int (i0.toInt8.toInt32)), .val (.int (1 : Int32)), .val (.int cp), .val (.int (1 : Int32)), .val (.int cp), .unset] [(.int (cp.toInt8.toInt32))])) rfl (by rw [hml]; rfl) (argsL := [(.int (cp.toInt8.toInt32))]) (rest := []) (lenOf own_pd0 rfl) rfl (by show 2 * 0 + _ ≤ _; exact Nat.le_of_eq rfl) (hb hby at_117) (fun _ _ => ⟨rfl, ec2, (by decide : 0 + 0 ≤ _), (by decide : 0 + 0 ≤ _)⟩)
    dsimp only [Pt.U, Pt.locs, Pt.cells, Pt.slots] at X3 l3 y3 z3 st3 hQ3
    subst l3 y3 z3
    obtain ⟨rfl, Nq3, hp3⟩ := hQ3
    have Nf := Fr.app Nf Nq3
    have ec3 : T3.heap = h0 := hp3
    refine own_by (B := T3.setTop (mkF m 120 #[.val (.int i0), .val (.int i1), .val (.int (i0.toInt8.toInt32)), .val (.int (1 : Int32)), .val (.int cp), .val (.int (1 : Int32)), .val (.int cp), .unset] [(.int (own_len (cp.toInt8.toInt32)))])) st3 ?_
    refine own_by (B := T3.setTop (mkF m 122 #[.val (.int i0), .val (.int i1), .val (.int (i0.toInt8.toInt32)), .val (.int (1 : Int32)), .val (.int cp), .val (.int (1 : Int32)), .val (.int cp), .unset] [(.int (1 : Int32)), (.int (own_len (cp.toInt8.toInt32)))])) (fun t k => XS.iload X3.here hx rfl (hb hby at_120) rfl k) ?_
    simp only [Int32.lt_iff_toInt_lt, show (128 : Int32).toInt = 128 from rfl, show (2048 : Int32).toInt = 2048 from rfl, show (65536 : Int32).toInt = 65536 from rfl] at hc38
    have hv : own_len (cp.toInt8.toInt32) = 1 := own_s1 hcp.1 (by omega)
    refine own_by (B := T3.setTop (mkF m 125 #[.val (.int i0), .val (.int i1), .val (.int (i0.toInt8.toInt32)), .val (.int (1 : Int32)), .val (.int cp), .val (.int (1 : Int32)), .val (.int cp), .unset] [])) (fun t k => XS.icmpNo X3.here hx rfl (hb hby at_122) rfl (teq hv).2 k) ?_
    refine own_by (B := T3.setTop (mkF m 126 #[.val (.int i0), .val (.int i1), .val (.int (i0.toInt8.toInt32)), .val (.int (1 : Int32)), .val (.int cp), .val (.int (1 : Int32)), .val (.int cp), .unset] [(.int (1 : Int32))])) (fun t k => XS.iconst X3.here hx rfl (hb hby at_125) k) ?_
    refine own_by (B := T3.setTop (mkF m 130 #[.val (.int i0), .val (.int i1), .val (.int (i0.toInt8.toInt32)), .val (.int (1 : Int32)), .val (.int cp), .val (.int (1 : Int32)), .val (.int cp), .unset] [(.int (1 : Int32))])) (fun t k => XS.goto X3.here hx rfl (pc0 := 126) (pc' := 130) rfl (hb hby at_126) (by decide) (by decide) k) ?_
    refine own_by (B := T3.setTop (mkF m 132 #[.val (.int i0), .val (.int i1), .val (.int (i0.toInt8.toInt32)), .val (.int (1 : Int32)), .val (.int cp), .val (.int (1 : Int32)), .val (.int cp), .val (.int (1 : Int32))] [])) (fun t k => XS.istore X3.here hx rfl (hb hby at_130) rfl (l' := #[.val (.int i0), .val (.int i1), .val (.int (i0.toInt8.toInt32)), .val (.int (1 : Int32)), .val (.int cp), .val (.int (1 : Int32)), .val (.int cp), .val (.int (1 : Int32))]) rfl k) ?_
    refine own_by (B := T3.setTop (mkF m 133 #[.val (.int i0), .val (.int i1), .val (.int (i0.toInt8.toInt32)), .val (.int (1 : Int32)), .val (.int cp), .val (.int (1 : Int32)), .val (.int cp), .val (.int (1 : Int32))] [(.int (1 : Int32))])) (fun t k => XS.iloadN X3.here hx rfl (hb hby at_132) rfl k) ?_
    refine own_by (B := T3.setTop (mkF m 136 #[.val (.int i0), .val (.int i1), .val (.int (i0.toInt8.toInt32)), .val (.int (1 : Int32)), .val (.int cp), .val (.int (1 : Int32)), .val (.int cp), .val (.int (1 : Int32))] [])) (fun t k => XS.ifNo X3.here hx rfl (hb hby at_133) rfl ((if0 _ _).trans (feq (by decide)).1) k) ?_
    refine own_by (B := T3.setTop (mkF m 138 #[.val (.int i0), .val (.int i1), .val (.int (i0.toInt8.toInt32)), .val (.int (1 : Int32)), .val (.int cp), .val (.int (1 : Int32)), .val (.int cp), .val (.int (1 : Int32))] [(.int (1 : Int32))])) (fun t k => XS.iload X3.here hx rfl (hb hby at_136) rfl k) ?_
    refine own_by (B := T3.setTop (mkF m 141 #[.val (.int i0), .val (.int i1), .val (.int (i0.toInt8.toInt32)), .val (.int (1 : Int32)), .val (.int cp), .val (.int (1 : Int32)), .val (.int cp), .val (.int (1 : Int32))] [])) (fun t k => XS.ifNo X3.here hx rfl (hb hby at_138) rfl ((if0 _ _).trans (feq (by decide)).1) k) ?_
    refine own_by (B := T3.setTop (mkF m 142 #[.val (.int i0), .val (.int i1), .val (.int (i0.toInt8.toInt32)), .val (.int (1 : Int32)), .val (.int cp), .val (.int (1 : Int32)), .val (.int cp), .val (.int (1 : Int32))] [(.int (1 : Int32))])) (fun t k => XS.iconst X3.here hx rfl (hb hby at_141) k) ?_
    refine own_by (B := T3.setTop (mkF m 146 #[.val (.int i0), .val (.int i1), .val (.int (i0.toInt8.toInt32)), .val (.int (1 : Int32)), .val (.int cp), .val (.int (1 : Int32)), .val (.int cp), .val (.int (1 : Int32))] [(.int (1 : Int32))])) (fun t k => XS.goto X3.here hx rfl (pc0 := 142) (pc' := 146) rfl (hb hby at_142) (by decide) (by decide) k) ?_
    exact own_end X3 (v := some (.int (1 : Int32))) (fun h => by rw [Bd.returns] at h; cases h) (BodyLoose.notSynchronized Bd) (Q := (Q_rm0 Z i0 i1 h0 n0)) (fun fs hr => retN X3 hx (t := .boolean) Bd.returns (by simp) (hb hby at_146) hr) (show (Q_rm0 Z i0 i1 h0 n0) _ T3.heap _ from (by rw [ec3]; exact ⟨rfl, Nf⟩)) (by decide) (by decide)
  · refine own_by (B := T2.setTop (mkF m 51 #[.val (.int i0), .val (.int i1), .val (.int (i0.toInt8.toInt32)), .val (.int (1 : Int32)), .val (.int cp), .unset, .unset, .unset] [])) (fun t k => XS.icmpYes X2.here hx rfl (pc0 := 38) (pc' := 51) rfl (hb hby at_38) rfl (flt hc38).2.1 (by decide) (by decide) k) ?_
    refine own_by (B := T2.setTop (mkF m 53 #[.val (.int i0), .val (.int i1), .val (.int (i0.toInt8.toInt32)), .val (.int (1 : Int32)), .val (.int cp), .unset, .unset, .unset] [(.int cp)])) (fun t k => XS.iload X2.here hx rfl (hb hby at_51) rfl k) ?_
    refine own_by (B := T2.setTop (mkF m 56 #[.val (.int i0), .val (.int i1), .val (.int (i0.toInt8.toInt32)), .val (.int (1 : Int32)), .val (.int cp), .unset, .unset, .unset] [(.int (2048 : Int32)), (.int cp)])) (fun t k => XS.sipush X2.here hx rfl (hb hby at_53) k) ?_
    by_cases hc56 : cp < (2048 : Int32)
    · refine own_by (B := T2.setTop (mkF m 59 #[.val (.int i0), .val (.int i1), .val (.int (i0.toInt8.toInt32)), .val (.int (1 : Int32)), .val (.int cp), .unset, .unset, .unset] [])) (fun t k => XS.icmpNo X2.here hx rfl (hb hby at_56) rfl (tlt hc56).2.1 k) ?_
      refine own_by (B := T2.setTop (mkF m 60 #[.val (.int i0), .val (.int i1), .val (.int (i0.toInt8.toInt32)), .val (.int (1 : Int32)), .val (.int cp), .unset, .unset, .unset] [(.int (2 : Int32))])) (fun t k => XS.iconst X2.here hx rfl (hb hby at_59) k) ?_
      refine own_by (B := T2.setTop (mkF m 62 #[.val (.int i0), .val (.int i1), .val (.int (i0.toInt8.toInt32)), .val (.int (1 : Int32)), .val (.int cp), .val (.int (2 : Int32)), .unset, .unset] [])) (fun t k => XS.istore X2.here hx rfl (hb hby at_60) rfl (l' := #[.val (.int i0), .val (.int i1), .val (.int (i0.toInt8.toInt32)), .val (.int (1 : Int32)), .val (.int cp), .val (.int (2 : Int32)), .unset, .unset]) rfl k) ?_
      refine own_by (B := T2.setTop (mkF m 65 #[.val (.int i0), .val (.int i1), .val (.int (i0.toInt8.toInt32)), .val (.int (1 : Int32)), .val (.int cp), .val (.int (2 : Int32)), .unset, .unset] [(.int (192 : Int32))])) (fun t k => XS.sipush X2.here hx rfl (hb hby at_62) k) ?_
      refine own_by (B := T2.setTop (mkF m 67 #[.val (.int i0), .val (.int i1), .val (.int (i0.toInt8.toInt32)), .val (.int (1 : Int32)), .val (.int cp), .val (.int (2 : Int32)), .unset, .unset] [(.int cp), (.int (192 : Int32))])) (fun t k => XS.iload X2.here hx rfl (hb hby at_65) rfl k) ?_
      refine own_by (B := T2.setTop (mkF m 69 #[.val (.int i0), .val (.int i1), .val (.int (i0.toInt8.toInt32)), .val (.int (1 : Int32)), .val (.int cp), .val (.int (2 : Int32)), .unset, .unset] [(.int (6 : Int32)), (.int cp), (.int (192 : Int32))])) (fun t k => XS.bipush X2.here hx rfl (hb hby at_67) k) ?_
      refine own_by (B := T2.setTop (mkF m 70 #[.val (.int i0), .val (.int i1), .val (.int (i0.toInt8.toInt32)), .val (.int (1 : Int32)), .val (.int cp), .val (.int (2 : Int32)), .unset, .unset] [(.int (cp >>> ((6 : Int32) &&& 31))), (.int (192 : Int32))])) (fun t k => XS.ishr X2.here hx rfl (hb hby at_69) rfl k) ?_
      refine own_by (B := T2.setTop (mkF m 71 #[.val (.int i0), .val (.int i1), .val (.int (i0.toInt8.toInt32)), .val (.int (1 : Int32)), .val (.int cp), .val (.int (2 : Int32)), .unset, .unset] [(.int ((192 : Int32) ||| (cp >>> ((6 : Int32) &&& 31))))])) (fun t k => XS.ior X2.here hx rfl (hb hby at_70) rfl k) ?_
      refine own_by (B := T2.setTop (mkF m 73 #[.val (.int i0), .val (.int i1), .val (.int (i0.toInt8.toInt32)), .val (.int (1 : Int32)), .val (.int cp), .val (.int (2 : Int32)), .val (.int ((192 : Int32) ||| (cp >>> ((6 : Int32) &&& 31)))), .unset] [])) (fun t k => XS.istore X2.here hx rfl (hb hby at_71) rfl (l' := #[.val (.int i0), .val (.int i1), .val (.int (i0.toInt8.toInt32)), .val (.int (1 : Int32)), .val (.int cp), .val (.int (2 : Int32)), .val (.int ((192 : Int32) ||| (cp >>> ((6 : Int32) &&& 31)))), .unset]) rfl k) ?_
      refine own_by (B := T2.setTop (mkF m 114 #[.val (.int i0), .val (.int i1), .val (.int (i0.toInt8.toInt32)), .val (.int (1 : Int32)), .val (.int cp), .val (.int (2 : Int32)), .val (.int ((192 : Int32) ||| (cp >>> ((6 : Int32) &&& 31)))), .unset] [])) (fun t k => XS.goto X2.here hx rfl (pc0 := 73) (pc' := 114) rfl (hb hby at_73) (by decide) (by decide) k) ?_
      refine own_by (B := T2.setTop (mkF m 116 #[.val (.int i0), .val (.int i1), .val (.int (i0.toInt8.toInt32)), .val (.int (1 : Int32)), .val (.int cp), .val (.int (2 : Int32)), .val (.int ((192 : Int32) ||| (cp >>> ((6 : Int32) &&& 31)))), .unset] [(.int ((192 : Int32) ||| (cp >>> ((6 : Int32) &&& 31))))])) (fun t k => XS.iload X2.here hx rfl (hb hby at_114) rfl k) ?_
      refine own_by (B := T2.setTop (mkF m 117 #[.val (.int i0), .val (.int i1), .val (.int (i0.toInt8.toInt32)), .val (.int (1 : Int32)), .val (.int cp), .val (.int (2 : Int32)), .val (.int ((192 : Int32) ||| (cp >>> ((6 : Int32) &&& 31)))), .unset] [(.int (((192 : Int32) ||| (cp >>> ((6 : Int32) &&& 31))).toInt8.toInt32))])) (fun t k => XS.i2b X2.here hx rfl (hb hby at_116) rfl k) ?_
      obtain ⟨_, _, ⟨T4, L4, k4, n4⟩, -, X4, ⟨Lc4, hQ4, l4, y4, z4⟩, st4⟩ := Jvm.LawKit.callS X2 hx (y := (⟨"com/example/pipehat/pipehat/Utf8", "length", "(B)I"⟩ : MethodName)) hown (mvT hZ (hw _ (List.mem_of_getElem? (i := 0) rfl))) (mvT hZ (hw _ (List.mem_of_getElem? (i := 1) rfl))) (mvT hZ (hw _ (List.mem_of_getElem? (i := 2) rfl))) (mvT hZ (hw _ (List.mem_of_getElem? (i := 3) rfl))) (by decide) (backOf (W := 0) (rmL l Z a0 hw [] (((192 : Int32) ||| (cp >>> ((6 : Int32) &&& 31))).toInt8.toInt32) h0 n0 Zs) hZ (hw _ (List.mem_of_getElem? (i := 3) rfl)) (hw _ (List.mem_of_getElem? (i := 2) rfl)) (by decide) (by decide)) (g := (mkF m 117 #[.val (.int i0), .val (.int i1), .val (.int (i0.toInt8.toInt32)), .val (.int (1 : Int32)), .val (.int cp), .val (.int (2 : Int32)), .val (.int ((192 : Int32) ||| (cp >>> ((6 : Int32) &&& 31)))), .unset] [(.int (((192 : Int32) ||| (cp >>> ((6 : Int32) &&& 31))).toInt8.toInt32))])) rfl (by rw [hml]; rfl) (argsL := [(.int (((192 : Int32) ||| (cp >>> ((6 : Int32) &&& 31))).toInt8.toInt32))]) (rest := []) (lenOf own_pd0 rfl) rfl (by show 2 * 0 + _ ≤ _; exact Nat.le_of_eq rfl) (hb hby at_117) (fun _ _ => ⟨rfl, ec2, (by decide : 0 + 0 ≤ _), (by decide : 0 + 0 ≤ _)⟩)
      dsimp only [Pt.U, Pt.locs, Pt.cells, Pt.slots] at X4 l4 y4 z4 st4 hQ4
      subst l4 y4 z4
      obtain ⟨rfl, Nq4, hp4⟩ := hQ4
      have Nf := Fr.app Nf Nq4
      have ec4 : T4.heap = h0 := hp4
      refine own_by (B := T4.setTop (mkF m 120 #[.val (.int i0), .val (.int i1), .val (.int (i0.toInt8.toInt32)), .val (.int (1 : Int32)), .val (.int cp), .val (.int (2 : Int32)), .val (.int ((192 : Int32) ||| (cp >>> ((6 : Int32) &&& 31)))), .unset] [(.int (own_len (((192 : Int32) ||| (cp >>> ((6 : Int32) &&& 31))).toInt8.toInt32)))])) st4 ?_
      refine own_by (B := T4.setTop (mkF m 122 #[.val (.int i0), .val (.int i1), .val (.int (i0.toInt8.toInt32)), .val (.int (1 : Int32)), .val (.int cp), .val (.int (2 : Int32)), .val (.int ((192 : Int32) ||| (cp >>> ((6 : Int32) &&& 31)))), .unset] [(.int (2 : Int32)), (.int (own_len (((192 : Int32) ||| (cp >>> ((6 : Int32) &&& 31))).toInt8.toInt32)))])) (fun t k => XS.iload X4.here hx rfl (hb hby at_120) rfl k) ?_
      simp only [Int32.lt_iff_toInt_lt, show (128 : Int32).toInt = 128 from rfl, show (2048 : Int32).toInt = 2048 from rfl, show (65536 : Int32).toInt = 65536 from rfl] at hc38 hc56
      have hsh := c_ishr cp 6 6 (by decide)
      have hv := own_s2 (w := (cp >>> ((6 : Int32) &&& 31))) (by omega) (by omega)
      refine own_by (B := T4.setTop (mkF m 125 #[.val (.int i0), .val (.int i1), .val (.int (i0.toInt8.toInt32)), .val (.int (1 : Int32)), .val (.int cp), .val (.int (2 : Int32)), .val (.int ((192 : Int32) ||| (cp >>> ((6 : Int32) &&& 31)))), .unset] [])) (fun t k => XS.icmpNo X4.here hx rfl (hb hby at_122) rfl (teq hv).2 k) ?_
      refine own_by (B := T4.setTop (mkF m 126 #[.val (.int i0), .val (.int i1), .val (.int (i0.toInt8.toInt32)), .val (.int (1 : Int32)), .val (.int cp), .val (.int (2 : Int32)), .val (.int ((192 : Int32) ||| (cp >>> ((6 : Int32) &&& 31)))), .unset] [(.int (1 : Int32))])) (fun t k => XS.iconst X4.here hx rfl (hb hby at_125) k) ?_
      refine own_by (B := T4.setTop (mkF m 130 #[.val (.int i0), .val (.int i1), .val (.int (i0.toInt8.toInt32)), .val (.int (1 : Int32)), .val (.int cp), .val (.int (2 : Int32)), .val (.int ((192 : Int32) ||| (cp >>> ((6 : Int32) &&& 31)))), .unset] [(.int (1 : Int32))])) (fun t k => XS.goto X4.here hx rfl (pc0 := 126) (pc' := 130) rfl (hb hby at_126) (by decide) (by decide) k) ?_
      refine own_by (B := T4.setTop (mkF m 132 #[.val (.int i0), .val (.int i1), .val (.int (i0.toInt8.toInt32)), .val (.int (1 : Int32)), .val (.int cp), .val (.int (2 : Int32)), .val (.int ((192 : Int32) ||| (cp >>> ((6 : Int32) &&& 31)))), .val (.int (1 : Int32))] [])) (fun t k => XS.istore X4.here hx rfl (hb hby at_130) rfl (l' := #[.val (.int i0), .val (.int i1), .val (.int (i0.toInt8.toInt32)), .val (.int (1 : Int32)), .val (.int cp), .val (.int (2 : Int32)), .val (.int ((192 : Int32) ||| (cp >>> ((6 : Int32) &&& 31)))), .val (.int (1 : Int32))]) rfl k) ?_
      refine own_by (B := T4.setTop (mkF m 133 #[.val (.int i0), .val (.int i1), .val (.int (i0.toInt8.toInt32)), .val (.int (1 : Int32)), .val (.int cp), .val (.int (2 : Int32)), .val (.int ((192 : Int32) ||| (cp >>> ((6 : Int32) &&& 31)))), .val (.int (1 : Int32))] [(.int (1 : Int32))])) (fun t k => XS.iloadN X4.here hx rfl (hb hby at_132) rfl k) ?_
      refine own_by (B := T4.setTop (mkF m 136 #[.val (.int i0), .val (.int i1), .val (.int (i0.toInt8.toInt32)), .val (.int (1 : Int32)), .val (.int cp), .val (.int (2 : Int32)), .val (.int ((192 : Int32) ||| (cp >>> ((6 : Int32) &&& 31)))), .val (.int (1 : Int32))] [])) (fun t k => XS.ifNo X4.here hx rfl (hb hby at_133) rfl ((if0 _ _).trans (feq (by decide)).1) k) ?_
      refine own_by (B := T4.setTop (mkF m 138 #[.val (.int i0), .val (.int i1), .val (.int (i0.toInt8.toInt32)), .val (.int (1 : Int32)), .val (.int cp), .val (.int (2 : Int32)), .val (.int ((192 : Int32) ||| (cp >>> ((6 : Int32) &&& 31)))), .val (.int (1 : Int32))] [(.int (1 : Int32))])) (fun t k => XS.iload X4.here hx rfl (hb hby at_136) rfl k) ?_
      refine own_by (B := T4.setTop (mkF m 141 #[.val (.int i0), .val (.int i1), .val (.int (i0.toInt8.toInt32)), .val (.int (1 : Int32)), .val (.int cp), .val (.int (2 : Int32)), .val (.int ((192 : Int32) ||| (cp >>> ((6 : Int32) &&& 31)))), .val (.int (1 : Int32))] [])) (fun t k => XS.ifNo X4.here hx rfl (hb hby at_138) rfl ((if0 _ _).trans (feq (by decide)).1) k) ?_
      refine own_by (B := T4.setTop (mkF m 142 #[.val (.int i0), .val (.int i1), .val (.int (i0.toInt8.toInt32)), .val (.int (1 : Int32)), .val (.int cp), .val (.int (2 : Int32)), .val (.int ((192 : Int32) ||| (cp >>> ((6 : Int32) &&& 31)))), .val (.int (1 : Int32))] [(.int (1 : Int32))])) (fun t k => XS.iconst X4.here hx rfl (hb hby at_141) k) ?_
      refine own_by (B := T4.setTop (mkF m 146 #[.val (.int i0), .val (.int i1), .val (.int (i0.toInt8.toInt32)), .val (.int (1 : Int32)), .val (.int cp), .val (.int (2 : Int32)), .val (.int ((192 : Int32) ||| (cp >>> ((6 : Int32) &&& 31)))), .val (.int (1 : Int32))] [(.int (1 : Int32))])) (fun t k => XS.goto X4.here hx rfl (pc0 := 142) (pc' := 146) rfl (hb hby at_142) (by decide) (by decide) k) ?_
      exact own_end X4 (v := some (.int (1 : Int32))) (fun h => by rw [Bd.returns] at h; cases h) (BodyLoose.notSynchronized Bd) (Q := (Q_rm0 Z i0 i1 h0 n0)) (fun fs hr => retN X4 hx (t := .boolean) Bd.returns (by simp) (hb hby at_146) hr) (show (Q_rm0 Z i0 i1 h0 n0) _ T4.heap _ from (by rw [ec4]; exact ⟨rfl, Nf⟩)) (by decide) (by decide)
    · refine own_by (B := T2.setTop (mkF m 76 #[.val (.int i0), .val (.int i1), .val (.int (i0.toInt8.toInt32)), .val (.int (1 : Int32)), .val (.int cp), .unset, .unset, .unset] [])) (fun t k => XS.icmpYes X2.here hx rfl (pc0 := 56) (pc' := 76) rfl (hb hby at_56) rfl (flt hc56).2.1 (by decide) (by decide) k) ?_
      refine own_by (B := T2.setTop (mkF m 78 #[.val (.int i0), .val (.int i1), .val (.int (i0.toInt8.toInt32)), .val (.int (1 : Int32)), .val (.int cp), .unset, .unset, .unset] [(.int cp)])) (fun t k => XS.iload X2.here hx rfl (hb hby at_76) rfl k) ?_
      refine own_by (B := T2.setTop (mkF m 80 #[.val (.int i0), .val (.int i1), .val (.int (i0.toInt8.toInt32)), .val (.int (1 : Int32)), .val (.int cp), .unset, .unset, .unset] [(.int (65536 : Int32)), (.int cp)])) (fun t k => X2.ldcInt hx hown (mvT hZ (hw _ (List.mem_of_getElem? (i := 10) rfl))) (g := (mkF m 78 #[.val (.int i0), .val (.int i1), .val (.int (i0.toInt8.toInt32)), .val (.int (1 : Int32)), .val (.int cp), .unset, .unset, .unset] [(.int cp)])) rfl (hb hby at_78) _ k) ?_
      by_cases hc80 : cp < (65536 : Int32)
      · refine own_by (B := T2.setTop (mkF m 83 #[.val (.int i0), .val (.int i1), .val (.int (i0.toInt8.toInt32)), .val (.int (1 : Int32)), .val (.int cp), .unset, .unset, .unset] [])) (fun t k => XS.icmpNo X2.here hx rfl (hb hby at_80) rfl (tlt hc80).2.1 k) ?_
        refine own_by (B := T2.setTop (mkF m 84 #[.val (.int i0), .val (.int i1), .val (.int (i0.toInt8.toInt32)), .val (.int (1 : Int32)), .val (.int cp), .unset, .unset, .unset] [(.int (3 : Int32))])) (fun t k => XS.iconst X2.here hx rfl (hb hby at_83) k) ?_
        refine own_by (B := T2.setTop (mkF m 86 #[.val (.int i0), .val (.int i1), .val (.int (i0.toInt8.toInt32)), .val (.int (1 : Int32)), .val (.int cp), .val (.int (3 : Int32)), .unset, .unset] [])) (fun t k => XS.istore X2.here hx rfl (hb hby at_84) rfl (l' := #[.val (.int i0), .val (.int i1), .val (.int (i0.toInt8.toInt32)), .val (.int (1 : Int32)), .val (.int cp), .val (.int (3 : Int32)), .unset, .unset]) rfl k) ?_
        refine own_by (B := T2.setTop (mkF m 89 #[.val (.int i0), .val (.int i1), .val (.int (i0.toInt8.toInt32)), .val (.int (1 : Int32)), .val (.int cp), .val (.int (3 : Int32)), .unset, .unset] [(.int (224 : Int32))])) (fun t k => XS.sipush X2.here hx rfl (hb hby at_86) k) ?_
        refine own_by (B := T2.setTop (mkF m 91 #[.val (.int i0), .val (.int i1), .val (.int (i0.toInt8.toInt32)), .val (.int (1 : Int32)), .val (.int cp), .val (.int (3 : Int32)), .unset, .unset] [(.int cp), (.int (224 : Int32))])) (fun t k => XS.iload X2.here hx rfl (hb hby at_89) rfl k) ?_
        refine own_by (B := T2.setTop (mkF m 93 #[.val (.int i0), .val (.int i1), .val (.int (i0.toInt8.toInt32)), .val (.int (1 : Int32)), .val (.int cp), .val (.int (3 : Int32)), .unset, .unset] [(.int (12 : Int32)), (.int cp), (.int (224 : Int32))])) (fun t k => XS.bipush X2.here hx rfl (hb hby at_91) k) ?_
        refine own_by (B := T2.setTop (mkF m 94 #[.val (.int i0), .val (.int i1), .val (.int (i0.toInt8.toInt32)), .val (.int (1 : Int32)), .val (.int cp), .val (.int (3 : Int32)), .unset, .unset] [(.int (cp >>> ((12 : Int32) &&& 31))), (.int (224 : Int32))])) (fun t k => XS.ishr X2.here hx rfl (hb hby at_93) rfl k) ?_
        refine own_by (B := T2.setTop (mkF m 95 #[.val (.int i0), .val (.int i1), .val (.int (i0.toInt8.toInt32)), .val (.int (1 : Int32)), .val (.int cp), .val (.int (3 : Int32)), .unset, .unset] [(.int ((224 : Int32) ||| (cp >>> ((12 : Int32) &&& 31))))])) (fun t k => XS.ior X2.here hx rfl (hb hby at_94) rfl k) ?_
        refine own_by (B := T2.setTop (mkF m 97 #[.val (.int i0), .val (.int i1), .val (.int (i0.toInt8.toInt32)), .val (.int (1 : Int32)), .val (.int cp), .val (.int (3 : Int32)), .val (.int ((224 : Int32) ||| (cp >>> ((12 : Int32) &&& 31)))), .unset] [])) (fun t k => XS.istore X2.here hx rfl (hb hby at_95) rfl (l' := #[.val (.int i0), .val (.int i1), .val (.int (i0.toInt8.toInt32)), .val (.int (1 : Int32)), .val (.int cp), .val (.int (3 : Int32)), .val (.int ((224 : Int32) ||| (cp >>> ((12 : Int32) &&& 31)))), .unset]) rfl k) ?_
        refine own_by (B := T2.setTop (mkF m 114 #[.val (.int i0), .val (.int i1), .val (.int (i0.toInt8.toInt32)), .val (.int (1 : Int32)), .val (.int cp), .val (.int (3 : Int32)), .val (.int ((224 : Int32) ||| (cp >>> ((12 : Int32) &&& 31)))), .unset] [])) (fun t k => XS.goto X2.here hx rfl (pc0 := 97) (pc' := 114) rfl (hb hby at_97) (by decide) (by decide) k) ?_
        refine own_by (B := T2.setTop (mkF m 116 #[.val (.int i0), .val (.int i1), .val (.int (i0.toInt8.toInt32)), .val (.int (1 : Int32)), .val (.int cp), .val (.int (3 : Int32)), .val (.int ((224 : Int32) ||| (cp >>> ((12 : Int32) &&& 31)))), .unset] [(.int ((224 : Int32) ||| (cp >>> ((12 : Int32) &&& 31))))])) (fun t k => XS.iload X2.here hx rfl (hb hby at_114) rfl k) ?_
        refine own_by (B := T2.setTop (mkF m 117 #[.val (.int i0), .val (.int i1), .val (.int (i0.toInt8.toInt32)), .val (.int (1 : Int32)), .val (.int cp), .val (.int (3 : Int32)), .val (.int ((224 : Int32) ||| (cp >>> ((12 : Int32) &&& 31)))), .unset] [(.int (((224 : Int32) ||| (cp >>> ((12 : Int32) &&& 31))).toInt8.toInt32))])) (fun t k => XS.i2b X2.here hx rfl (hb hby at_116) rfl k) ?_
        obtain ⟨_, _, ⟨T5, L5, k5, n5⟩, -, X5, ⟨Lc5, hQ5, l5, y5, z5⟩, st5⟩ := Jvm.LawKit.callS X2 hx (y := (⟨"com/example/pipehat/pipehat/Utf8", "length", "(B)I"⟩ : MethodName)) hown (mvT hZ (hw _ (List.mem_of_getElem? (i := 0) rfl))) (mvT hZ (hw _ (List.mem_of_getElem? (i := 1) rfl))) (mvT hZ (hw _ (List.mem_of_getElem? (i := 2) rfl))) (mvT hZ (hw _ (List.mem_of_getElem? (i := 3) rfl))) (by decide) (backOf (W := 0) (rmL l Z a0 hw [] (((224 : Int32) ||| (cp >>> ((12 : Int32) &&& 31))).toInt8.toInt32) h0 n0 Zs) hZ (hw _ (List.mem_of_getElem? (i := 3) rfl)) (hw _ (List.mem_of_getElem? (i := 2) rfl)) (by decide) (by decide)) (g := (mkF m 117 #[.val (.int i0), .val (.int i1), .val (.int (i0.toInt8.toInt32)), .val (.int (1 : Int32)), .val (.int cp), .val (.int (3 : Int32)), .val (.int ((224 : Int32) ||| (cp >>> ((12 : Int32) &&& 31)))), .unset] [(.int (((224 : Int32) ||| (cp >>> ((12 : Int32) &&& 31))).toInt8.toInt32))])) rfl (by rw [hml]; rfl) (argsL := [(.int (((224 : Int32) ||| (cp >>> ((12 : Int32) &&& 31))).toInt8.toInt32))]) (rest := []) (lenOf own_pd0 rfl) rfl (by show 2 * 0 + _ ≤ _; exact Nat.le_of_eq rfl) (hb hby at_117) (fun _ _ => ⟨rfl, ec2, (by decide : 0 + 0 ≤ _), (by decide : 0 + 0 ≤ _)⟩)
        dsimp only [Pt.U, Pt.locs, Pt.cells, Pt.slots] at X5 l5 y5 z5 st5 hQ5
        subst l5 y5 z5
        obtain ⟨rfl, Nq5, hp5⟩ := hQ5
        have Nf := Fr.app Nf Nq5
        have ec5 : T5.heap = h0 := hp5
        refine own_by (B := T5.setTop (mkF m 120 #[.val (.int i0), .val (.int i1), .val (.int (i0.toInt8.toInt32)), .val (.int (1 : Int32)), .val (.int cp), .val (.int (3 : Int32)), .val (.int ((224 : Int32) ||| (cp >>> ((12 : Int32) &&& 31)))), .unset] [(.int (own_len (((224 : Int32) ||| (cp >>> ((12 : Int32) &&& 31))).toInt8.toInt32)))])) st5 ?_
        refine own_by (B := T5.setTop (mkF m 122 #[.val (.int i0), .val (.int i1), .val (.int (i0.toInt8.toInt32)), .val (.int (1 : Int32)), .val (.int cp), .val (.int (3 : Int32)), .val (.int ((224 : Int32) ||| (cp >>> ((12 : Int32) &&& 31)))), .unset] [(.int (3 : Int32)), (.int (own_len (((224 : Int32) ||| (cp >>> ((12 : Int32) &&& 31))).toInt8.toInt32)))])) (fun t k => XS.iload X5.here hx rfl (hb hby at_120) rfl k) ?_
        simp only [Int32.lt_iff_toInt_lt, show (128 : Int32).toInt = 128 from rfl, show (2048 : Int32).toInt = 2048 from rfl, show (65536 : Int32).toInt = 65536 from rfl] at hc38 hc56 hc80
        have hsh := c_ishr cp 12 12 (by decide)
        have hv := own_s3 (w := (cp >>> ((12 : Int32) &&& 31))) (by omega) (by omega)
        refine own_by (B := T5.setTop (mkF m 125 #[.val (.int i0), .val (.int i1), .val (.int (i0.toInt8.toInt32)), .val (.int (1 : Int32)), .val (.int cp), .val (.int (3 : Int32)), .val (.int ((224 : Int32) ||| (cp >>> ((12 : Int32) &&& 31)))), .unset] [])) (fun t k => XS.icmpNo X5.here hx rfl (hb hby at_122) rfl (teq hv).2 k) ?_
        refine own_by (B := T5.setTop (mkF m 126 #[.val (.int i0), .val (.int i1), .val (.int (i0.toInt8.toInt32)), .val (.int (1 : Int32)), .val (.int cp), .val (.int (3 : Int32)), .val (.int ((224 : Int32) ||| (cp >>> ((12 : Int32) &&& 31)))), .unset] [(.int (1 : Int32))])) (fun t k => XS.iconst X5.here hx rfl (hb hby at_125) k) ?_
        refine own_by (B := T5.setTop (mkF m 130 #[.val (.int i0), .val (.int i1), .val (.int (i0.toInt8.toInt32)), .val (.int (1 : Int32)), .val (.int cp), .val (.int (3 : Int32)), .val (.int ((224 : Int32) ||| (cp >>> ((12 : Int32) &&& 31)))), .unset] [(.int (1 : Int32))])) (fun t k => XS.goto X5.here hx rfl (pc0 := 126) (pc' := 130) rfl (hb hby at_126) (by decide) (by decide) k) ?_
        refine own_by (B := T5.setTop (mkF m 132 #[.val (.int i0), .val (.int i1), .val (.int (i0.toInt8.toInt32)), .val (.int (1 : Int32)), .val (.int cp), .val (.int (3 : Int32)), .val (.int ((224 : Int32) ||| (cp >>> ((12 : Int32) &&& 31)))), .val (.int (1 : Int32))] [])) (fun t k => XS.istore X5.here hx rfl (hb hby at_130) rfl (l' := #[.val (.int i0), .val (.int i1), .val (.int (i0.toInt8.toInt32)), .val (.int (1 : Int32)), .val (.int cp), .val (.int (3 : Int32)), .val (.int ((224 : Int32) ||| (cp >>> ((12 : Int32) &&& 31)))), .val (.int (1 : Int32))]) rfl k) ?_
        refine own_by (B := T5.setTop (mkF m 133 #[.val (.int i0), .val (.int i1), .val (.int (i0.toInt8.toInt32)), .val (.int (1 : Int32)), .val (.int cp), .val (.int (3 : Int32)), .val (.int ((224 : Int32) ||| (cp >>> ((12 : Int32) &&& 31)))), .val (.int (1 : Int32))] [(.int (1 : Int32))])) (fun t k => XS.iloadN X5.here hx rfl (hb hby at_132) rfl k) ?_
        refine own_by (B := T5.setTop (mkF m 136 #[.val (.int i0), .val (.int i1), .val (.int (i0.toInt8.toInt32)), .val (.int (1 : Int32)), .val (.int cp), .val (.int (3 : Int32)), .val (.int ((224 : Int32) ||| (cp >>> ((12 : Int32) &&& 31)))), .val (.int (1 : Int32))] [])) (fun t k => XS.ifNo X5.here hx rfl (hb hby at_133) rfl ((if0 _ _).trans (feq (by decide)).1) k) ?_
        refine own_by (B := T5.setTop (mkF m 138 #[.val (.int i0), .val (.int i1), .val (.int (i0.toInt8.toInt32)), .val (.int (1 : Int32)), .val (.int cp), .val (.int (3 : Int32)), .val (.int ((224 : Int32) ||| (cp >>> ((12 : Int32) &&& 31)))), .val (.int (1 : Int32))] [(.int (1 : Int32))])) (fun t k => XS.iload X5.here hx rfl (hb hby at_136) rfl k) ?_
        refine own_by (B := T5.setTop (mkF m 141 #[.val (.int i0), .val (.int i1), .val (.int (i0.toInt8.toInt32)), .val (.int (1 : Int32)), .val (.int cp), .val (.int (3 : Int32)), .val (.int ((224 : Int32) ||| (cp >>> ((12 : Int32) &&& 31)))), .val (.int (1 : Int32))] [])) (fun t k => XS.ifNo X5.here hx rfl (hb hby at_138) rfl ((if0 _ _).trans (feq (by decide)).1) k) ?_
        refine own_by (B := T5.setTop (mkF m 142 #[.val (.int i0), .val (.int i1), .val (.int (i0.toInt8.toInt32)), .val (.int (1 : Int32)), .val (.int cp), .val (.int (3 : Int32)), .val (.int ((224 : Int32) ||| (cp >>> ((12 : Int32) &&& 31)))), .val (.int (1 : Int32))] [(.int (1 : Int32))])) (fun t k => XS.iconst X5.here hx rfl (hb hby at_141) k) ?_
        refine own_by (B := T5.setTop (mkF m 146 #[.val (.int i0), .val (.int i1), .val (.int (i0.toInt8.toInt32)), .val (.int (1 : Int32)), .val (.int cp), .val (.int (3 : Int32)), .val (.int ((224 : Int32) ||| (cp >>> ((12 : Int32) &&& 31)))), .val (.int (1 : Int32))] [(.int (1 : Int32))])) (fun t k => XS.goto X5.here hx rfl (pc0 := 142) (pc' := 146) rfl (hb hby at_142) (by decide) (by decide) k) ?_
        exact own_end X5 (v := some (.int (1 : Int32))) (fun h => by rw [Bd.returns] at h; cases h) (BodyLoose.notSynchronized Bd) (Q := (Q_rm0 Z i0 i1 h0 n0)) (fun fs hr => retN X5 hx (t := .boolean) Bd.returns (by simp) (hb hby at_146) hr) (show (Q_rm0 Z i0 i1 h0 n0) _ T5.heap _ from (by rw [ec5]; exact ⟨rfl, Nf⟩)) (by decide) (by decide)
      · refine own_by (B := T2.setTop (mkF m 100 #[.val (.int i0), .val (.int i1), .val (.int (i0.toInt8.toInt32)), .val (.int (1 : Int32)), .val (.int cp), .unset, .unset, .unset] [])) (fun t k => XS.icmpYes X2.here hx rfl (pc0 := 80) (pc' := 100) rfl (hb hby at_80) rfl (flt hc80).2.1 (by decide) (by decide) k) ?_
        refine own_by (B := T2.setTop (mkF m 101 #[.val (.int i0), .val (.int i1), .val (.int (i0.toInt8.toInt32)), .val (.int (1 : Int32)), .val (.int cp), .unset, .unset, .unset] [(.int (4 : Int32))])) (fun t k => XS.iconst X2.here hx rfl (hb hby at_100) k) ?_
        refine own_by (B := T2.setTop (mkF m 103 #[.val (.int i0), .val (.int i1), .val (.int (i0.toInt8.toInt32)), .val (.int (1 : Int32)), .val (.int cp), .val (.int (4 : Int32)), .unset, .unset] [])) (fun t k => XS.istore X2.here hx rfl (hb hby at_101) rfl (l' := #[.val (.int i0), .val (.int i1), .val (.int (i0.toInt8.toInt32)), .val (.int (1 : Int32)), .val (.int cp), .val (.int (4 : Int32)), .unset, .unset]) rfl k) ?_
        refine own_by (B := T2.setTop (mkF m 106 #[.val (.int i0), .val (.int i1), .val (.int (i0.toInt8.toInt32)), .val (.int (1 : Int32)), .val (.int cp), .val (.int (4 : Int32)), .unset, .unset] [(.int (240 : Int32))])) (fun t k => XS.sipush X2.here hx rfl (hb hby at_103) k) ?_
        refine own_by (B := T2.setTop (mkF m 108 #[.val (.int i0), .val (.int i1), .val (.int (i0.toInt8.toInt32)), .val (.int (1 : Int32)), .val (.int cp), .val (.int (4 : Int32)), .unset, .unset] [(.int cp), (.int (240 : Int32))])) (fun t k => XS.iload X2.here hx rfl (hb hby at_106) rfl k) ?_
        refine own_by (B := T2.setTop (mkF m 110 #[.val (.int i0), .val (.int i1), .val (.int (i0.toInt8.toInt32)), .val (.int (1 : Int32)), .val (.int cp), .val (.int (4 : Int32)), .unset, .unset] [(.int (18 : Int32)), (.int cp), (.int (240 : Int32))])) (fun t k => XS.bipush X2.here hx rfl (hb hby at_108) k) ?_
        refine own_by (B := T2.setTop (mkF m 111 #[.val (.int i0), .val (.int i1), .val (.int (i0.toInt8.toInt32)), .val (.int (1 : Int32)), .val (.int cp), .val (.int (4 : Int32)), .unset, .unset] [(.int (cp >>> ((18 : Int32) &&& 31))), (.int (240 : Int32))])) (fun t k => XS.ishr X2.here hx rfl (hb hby at_110) rfl k) ?_
        refine own_by (B := T2.setTop (mkF m 112 #[.val (.int i0), .val (.int i1), .val (.int (i0.toInt8.toInt32)), .val (.int (1 : Int32)), .val (.int cp), .val (.int (4 : Int32)), .unset, .unset] [(.int ((240 : Int32) ||| (cp >>> ((18 : Int32) &&& 31))))])) (fun t k => XS.ior X2.here hx rfl (hb hby at_111) rfl k) ?_
        refine own_by (B := T2.setTop (mkF m 114 #[.val (.int i0), .val (.int i1), .val (.int (i0.toInt8.toInt32)), .val (.int (1 : Int32)), .val (.int cp), .val (.int (4 : Int32)), .val (.int ((240 : Int32) ||| (cp >>> ((18 : Int32) &&& 31)))), .unset] [])) (fun t k => XS.istore X2.here hx rfl (hb hby at_112) rfl (l' := #[.val (.int i0), .val (.int i1), .val (.int (i0.toInt8.toInt32)), .val (.int (1 : Int32)), .val (.int cp), .val (.int (4 : Int32)), .val (.int ((240 : Int32) ||| (cp >>> ((18 : Int32) &&& 31)))), .unset]) rfl k) ?_
        refine own_by (B := T2.setTop (mkF m 116 #[.val (.int i0), .val (.int i1), .val (.int (i0.toInt8.toInt32)), .val (.int (1 : Int32)), .val (.int cp), .val (.int (4 : Int32)), .val (.int ((240 : Int32) ||| (cp >>> ((18 : Int32) &&& 31)))), .unset] [(.int ((240 : Int32) ||| (cp >>> ((18 : Int32) &&& 31))))])) (fun t k => XS.iload X2.here hx rfl (hb hby at_114) rfl k) ?_
        refine own_by (B := T2.setTop (mkF m 117 #[.val (.int i0), .val (.int i1), .val (.int (i0.toInt8.toInt32)), .val (.int (1 : Int32)), .val (.int cp), .val (.int (4 : Int32)), .val (.int ((240 : Int32) ||| (cp >>> ((18 : Int32) &&& 31)))), .unset] [(.int (((240 : Int32) ||| (cp >>> ((18 : Int32) &&& 31))).toInt8.toInt32))])) (fun t k => XS.i2b X2.here hx rfl (hb hby at_116) rfl k) ?_
        obtain ⟨_, _, ⟨T6, L6, k6, n6⟩, -, X6, ⟨Lc6, hQ6, l6, y6, z6⟩, st6⟩ := Jvm.LawKit.callS X2 hx (y := (⟨"com/example/pipehat/pipehat/Utf8", "length", "(B)I"⟩ : MethodName)) hown (mvT hZ (hw _ (List.mem_of_getElem? (i := 0) rfl))) (mvT hZ (hw _ (List.mem_of_getElem? (i := 1) rfl))) (mvT hZ (hw _ (List.mem_of_getElem? (i := 2) rfl))) (mvT hZ (hw _ (List.mem_of_getElem? (i := 3) rfl))) (by decide) (backOf (W := 0) (rmL l Z a0 hw [] (((240 : Int32) ||| (cp >>> ((18 : Int32) &&& 31))).toInt8.toInt32) h0 n0 Zs) hZ (hw _ (List.mem_of_getElem? (i := 3) rfl)) (hw _ (List.mem_of_getElem? (i := 2) rfl)) (by decide) (by decide)) (g := (mkF m 117 #[.val (.int i0), .val (.int i1), .val (.int (i0.toInt8.toInt32)), .val (.int (1 : Int32)), .val (.int cp), .val (.int (4 : Int32)), .val (.int ((240 : Int32) ||| (cp >>> ((18 : Int32) &&& 31)))), .unset] [(.int (((240 : Int32) ||| (cp >>> ((18 : Int32) &&& 31))).toInt8.toInt32))])) rfl (by rw [hml]; rfl) (argsL := [(.int (((240 : Int32) ||| (cp >>> ((18 : Int32) &&& 31))).toInt8.toInt32))]) (rest := []) (lenOf own_pd0 rfl) rfl (by show 2 * 0 + _ ≤ _; exact Nat.le_of_eq rfl) (hb hby at_117) (fun _ _ => ⟨rfl, ec2, (by decide : 0 + 0 ≤ _), (by decide : 0 + 0 ≤ _)⟩)
        dsimp only [Pt.U, Pt.locs, Pt.cells, Pt.slots] at X6 l6 y6 z6 st6 hQ6
        subst l6 y6 z6
        obtain ⟨rfl, Nq6, hp6⟩ := hQ6
        have Nf := Fr.app Nf Nq6
        have ec6 : T6.heap = h0 := hp6
        refine own_by (B := T6.setTop (mkF m 120 #[.val (.int i0), .val (.int i1), .val (.int (i0.toInt8.toInt32)), .val (.int (1 : Int32)), .val (.int cp), .val (.int (4 : Int32)), .val (.int ((240 : Int32) ||| (cp >>> ((18 : Int32) &&& 31)))), .unset] [(.int (own_len (((240 : Int32) ||| (cp >>> ((18 : Int32) &&& 31))).toInt8.toInt32)))])) st6 ?_
        refine own_by (B := T6.setTop (mkF m 122 #[.val (.int i0), .val (.int i1), .val (.int (i0.toInt8.toInt32)), .val (.int (1 : Int32)), .val (.int cp), .val (.int (4 : Int32)), .val (.int ((240 : Int32) ||| (cp >>> ((18 : Int32) &&& 31)))), .unset] [(.int (4 : Int32)), (.int (own_len (((240 : Int32) ||| (cp >>> ((18 : Int32) &&& 31))).toInt8.toInt32)))])) (fun t k => XS.iload X6.here hx rfl (hb hby at_120) rfl k) ?_
        simp only [Int32.lt_iff_toInt_lt, show (128 : Int32).toInt = 128 from rfl, show (2048 : Int32).toInt = 2048 from rfl, show (65536 : Int32).toInt = 65536 from rfl] at hc38 hc56 hc80
        have hsh := c_ishr cp 18 18 (by decide)
        have hv := own_s4 (w := (cp >>> ((18 : Int32) &&& 31))) (by omega) (by omega)
        refine own_by (B := T6.setTop (mkF m 125 #[.val (.int i0), .val (.int i1), .val (.int (i0.toInt8.toInt32)), .val (.int (1 : Int32)), .val (.int cp), .val (.int (4 : Int32)), .val (.int ((240 : Int32) ||| (cp >>> ((18 : Int32) &&& 31)))), .unset] [])) (fun t k => XS.icmpNo X6.here hx rfl (hb hby at_122) rfl (teq hv).2 k) ?_
        refine own_by (B := T6.setTop (mkF m 126 #[.val (.int i0), .val (.int i1), .val (.int (i0.toInt8.toInt32)), .val (.int (1 : Int32)), .val (.int cp), .val (.int (4 : Int32)), .val (.int ((240 : Int32) ||| (cp >>> ((18 : Int32) &&& 31)))), .unset] [(.int (1 : Int32))])) (fun t k => XS.iconst X6.here hx rfl (hb hby at_125) k) ?_
        refine own_by (B := T6.setTop (mkF m 130 #[.val (.int i0), .val (.int i1), .val (.int (i0.toInt8.toInt32)), .val (.int (1 : Int32)), .val (.int cp), .val (.int (4 : Int32)), .val (.int ((240 : Int32) ||| (cp >>> ((18 : Int32) &&& 31)))), .unset] [(.int (1 : Int32))])) (fun t k => XS.goto X6.here hx rfl (pc0 := 126) (pc' := 130) rfl (hb hby at_126) (by decide) (by decide) k) ?_
        refine own_by (B := T6.setTop (mkF m 132 #[.val (.int i0), .val (.int i1), .val (.int (i0.toInt8.toInt32)), .val (.int (1 : Int32)), .val (.int cp), .val (.int (4 : Int32)), .val (.int ((240 : Int32) ||| (cp >>> ((18 : Int32) &&& 31)))), .val (.int (1 : Int32))] [])) (fun t k => XS.istore X6.here hx rfl (hb hby at_130) rfl (l' := #[.val (.int i0), .val (.int i1), .val (.int (i0.toInt8.toInt32)), .val (.int (1 : Int32)), .val (.int cp), .val (.int (4 : Int32)), .val (.int ((240 : Int32) ||| (cp >>> ((18 : Int32) &&& 31)))), .val (.int (1 : Int32))]) rfl k) ?_
        refine own_by (B := T6.setTop (mkF m 133 #[.val (.int i0), .val (.int i1), .val (.int (i0.toInt8.toInt32)), .val (.int (1 : Int32)), .val (.int cp), .val (.int (4 : Int32)), .val (.int ((240 : Int32) ||| (cp >>> ((18 : Int32) &&& 31)))), .val (.int (1 : Int32))] [(.int (1 : Int32))])) (fun t k => XS.iloadN X6.here hx rfl (hb hby at_132) rfl k) ?_
        refine own_by (B := T6.setTop (mkF m 136 #[.val (.int i0), .val (.int i1), .val (.int (i0.toInt8.toInt32)), .val (.int (1 : Int32)), .val (.int cp), .val (.int (4 : Int32)), .val (.int ((240 : Int32) ||| (cp >>> ((18 : Int32) &&& 31)))), .val (.int (1 : Int32))] [])) (fun t k => XS.ifNo X6.here hx rfl (hb hby at_133) rfl ((if0 _ _).trans (feq (by decide)).1) k) ?_
        refine own_by (B := T6.setTop (mkF m 138 #[.val (.int i0), .val (.int i1), .val (.int (i0.toInt8.toInt32)), .val (.int (1 : Int32)), .val (.int cp), .val (.int (4 : Int32)), .val (.int ((240 : Int32) ||| (cp >>> ((18 : Int32) &&& 31)))), .val (.int (1 : Int32))] [(.int (1 : Int32))])) (fun t k => XS.iload X6.here hx rfl (hb hby at_136) rfl k) ?_
        refine own_by (B := T6.setTop (mkF m 141 #[.val (.int i0), .val (.int i1), .val (.int (i0.toInt8.toInt32)), .val (.int (1 : Int32)), .val (.int cp), .val (.int (4 : Int32)), .val (.int ((240 : Int32) ||| (cp >>> ((18 : Int32) &&& 31)))), .val (.int (1 : Int32))] [])) (fun t k => XS.ifNo X6.here hx rfl (hb hby at_138) rfl ((if0 _ _).trans (feq (by decide)).1) k) ?_
        refine own_by (B := T6.setTop (mkF m 142 #[.val (.int i0), .val (.int i1), .val (.int (i0.toInt8.toInt32)), .val (.int (1 : Int32)), .val (.int cp), .val (.int (4 : Int32)), .val (.int ((240 : Int32) ||| (cp >>> ((18 : Int32) &&& 31)))), .val (.int (1 : Int32))] [(.int (1 : Int32))])) (fun t k => XS.iconst X6.here hx rfl (hb hby at_141) k) ?_
        refine own_by (B := T6.setTop (mkF m 146 #[.val (.int i0), .val (.int i1), .val (.int (i0.toInt8.toInt32)), .val (.int (1 : Int32)), .val (.int cp), .val (.int (4 : Int32)), .val (.int ((240 : Int32) ||| (cp >>> ((18 : Int32) &&& 31)))), .val (.int (1 : Int32))] [(.int (1 : Int32))])) (fun t k => XS.goto X6.here hx rfl (pc0 := 142) (pc' := 146) rfl (hb hby at_142) (by decide) (by decide) k) ?_
        exact own_end X6 (v := some (.int (1 : Int32))) (fun h => by rw [Bd.returns] at h; cases h) (BodyLoose.notSynchronized Bd) (Q := (Q_rm0 Z i0 i1 h0 n0)) (fun fs hr => retN X6 hx (t := .boolean) Bd.returns (by simp) (hb hby at_146) hr) (show (Q_rm0 Z i0 i1 h0 n0) _ T6.heap _ from (by rw [ec6]; exact ⟨rfl, Nf⟩)) (by decide) (by decide)
set_option maxRecDepth 65536 in
set_option maxHeartbeats 40000000 in
theorem comes_1 {Post : Tables → Env → Array Value → State → Outcome → State → Prop} (hpost : ∀ tb e args s v u, (limb_1_1.after args s (.returned v) u = true ∧ limb_1_2.after args s (.returned v) u = true ∧ True) → FrameEnd s (.returned v) u (Jvm.fieldLocs frame_1_writes args s ++ Jvm.arrayLocs frame_1_arrays args s ++ Jvm.staticLocs frame_1_statics s) 0 0 → Post tb e args s (.returned v) u) :
    ArmFor flags0 classFile x code maxLocals ret World_1 tables_1 room_1 Calls_1 rest_1 Pre_1 Post := by
  intro l hfl _ _ p e ha hc hk s m args below hf hA hF happ hP
  obtain ⟨hcalls, hrest, hpre⟩ := hP
  obtain ⟨-, -, -, hnamed, -, -, -, hat⟩ := (Spec.applies_iff hf).mp happ
  obtain ⟨hg, hn⟩ := and_e (Cond.before_iff.mp (show (Jvm.Cond.and given_1 narrow_1).before args s = true from hpre))
  obtain ⟨hcount, hg0⟩ := and_e hg
  obtain ⟨hv0, hg1⟩ := and_e hg0
  have hv1 := hg1
  obtain ⟨w0, w1, rfl⟩ : ∃ w0 w1 : Value, args = #[w0, w1] := by
    have hs : args.size = 2 := by simpa [Cond.value, given_1] using hcount
    obtain ⟨L⟩ := args
    match L, hs with
    | [w0, w1], _ => exact ⟨w0, w1, rfl⟩
  have hw := fun d (hd : d ∈ tables_1) => atoms_spec (ws := Jvm.Cond.code x code maxLocals ret :: tables_1) hat d (List.mem_cons_of_mem _ hd)
  have hfit : Fit s := fun {y c} hc i hi => by
    obtain ⟨ha, rfl⟩ := Array.getElem?_eq_some_iff.mp hc
    have q := List.all_eq_true.mp ((Array.all_eq_true_iff_forall_mem.mp hF) _ (Array.getElem_mem ha)) i (List.mem_range.mpr hi)
    simpa [Array.getElem?_eq_getElem hi] using q
  obtain ⟨i0, ei0⟩ := is_v hv0
  obtain rfl : w0 = (.int i0) := Option.some.inj ei0
  obtain ⟨i1, ei1⟩ := is_v hv1
  obtain rfl : w1 = (.int i1) := Option.some.inj ei1
  obtain ⟨n, o, h1, h2, h3, _, L, rfl, ⟨rfl, N⟩, hq⟩ := rm0 l s _ hw tables_1 i0 i1 s.heap s.heap.size (Nat.le_refl _)  p e ha hc hk s m _ below hf ((Spec.applies_iff_loose hf).mp happ).1 ⟨rfl, State.Warmed39.refl s, rfl⟩ trivial
  refine ⟨n, _, h1, h2, h3, hpost _ _ _ _ _ _ ⟨Cond.after_iff.mpr rfl, Cond.after_iff.mpr (eq_i res_at (Term.int_eval (1)) rfl), trivial⟩ ⟨hq.1, hq.2.1, (hq.2.2.sift fun y hy => Or.inr (N y hy)).mono (by decide) (by decide)⟩⟩
theorem main_1_1 : Claimed_1_1 := comes_1 fun _ _ _ _ _ _ h hF => ⟨h.1, hF⟩
theorem main_1_2 : Claimed_1_2 := comes_1 fun _ _ _ _ _ _ h hF => ⟨h.2.1, hF⟩
end Jvm.Pilot.@@N@@
namespace Jvm.Pilot.@@N@@
open Jvm Jvm.ClassFile Sem Op Lib Jvm.Free Jvm.Stand Jvm.Pilot.@@N@@.Jvm.D
/-! MADE BY PROGRAM (witnessworld.py) out of the Statement's table words and the real class files: 9 classes; the members and pool entries that the words name. The judged class is class 1, her method 2. -/
namespace start1
open Jvm.ClassFile
def u (s : String) : CpInfo := .utf8 (stringToUtf16 s)
/-- a pool by its gaps: so many unusable entries, then the entry; so many at the end -/
def gap : Nat → List CpInfo → List CpInfo
  | 0, r => r
  | n + 1, r => .unusable :: gap n r
def poolList (es : List (Nat × CpInfo)) (last : Nat) : List CpInfo := es.foldr (fun e r => gap e.1 (e.2 :: r)) (gap last [])
def pool (es : List (Nat × CpInfo)) (last : Nat) : Array CpInfo := ⟨poolList es last⟩
def fileOf (pool : Array CpInfo) (this : Nat) (attrs : Array Attribute := #[]) (ms : Array MethodInfo := #[]) (fl : Nat := 33) (sup : Nat := 0) (ifs : Array Nat := #[]) (fds : Array FieldInfo := #[]) : ClassFile where
  minorVersion := 0
  majorVersion := 65
  constantPool := pool
  accessFlags := fl
  thisClass := this
  superClass := sup
  interfaces := ifs
  fields := fds
  methods := ms
  attributes := attrs
def plain (name : String) (sup : Option ClassId) : Class where
  name := name
  kind := .ordinary
  loader := none
  accessFlags := 33
  super := sup
  interfaces := #[]
  cf := none
  fields := #[]
  methods := #[]
  instanceTypes := #[]
  staticTypes := #[]
  resolved := #[]
  callSites := []
  init := .initialized
  statics := none
  mirror := none

def pool0 : Array CpInfo := pool [(5, u "<init>"), (0, u "()V"), (1, .class_ 10), (1, u "java/lang/Object")] 113

def k0m0 : Method := { name := "<init>", desc := "()V", sig := { parameters := [], returnType := none }, accessFlags := 1, code := none }
/-- java/lang/Object -/
def k0 : Class := { plain "java/lang/Object" none with
  accessFlags := 33
  interfaces := #[]
  cf := some (fileOf pool0 8 #[] #[{ accessFlags := 1, nameIndex := 5, descriptorIndex := 6, attributes := #[] }] 33 0 #[] #[])
  fields := #[]
  methods := #[k0m0]
  instanceTypes := #[]
  staticTypes := #[]
  resolved := Array.replicate 124 none
  statics := none }

def pool1 : Array CpInfo := pool [(2, .class_ 4), (1, u "java/lang/Object"), (0, u "<init>"), (0, u "()V"), (0, .methodref 8 9), (0, .class_ 10), (0, .nameAndType 11 12), (0, u "com/example/pipehat/pipehat/Utf8"), (0, u "length"), (0, u "(B)I"), (0, .methodref 14 15), (0, .class_ 16), (0, .nameAndType 17 18), (0, u "com/example/pipehat/pipehat/Utf8LengthPinLaw"), (0, u "byBits"), (0, u "(I)I"), (0, .integer 2147483647), (0, .integer 1114112), (0, .integer 65536), (3, u "law"), (0, u "(II)Z")] 2

def k1m0 : Method := { name := "<init>", desc := "()V", sig := { parameters := [], returnType := none }, accessFlags := 2, code := none }
def k1c1 : Code := { maxStack := 2, maxLocals := 1, code := method_2_code, exceptionTable := #[], attributes := #[] }
def k1m1 : Method := { name := "byBits", desc := "(I)I", sig := { parameters := [.int], returnType := some .int }, accessFlags := 10, code := some k1c1 }
def k1c2 : Code := { maxStack := 3, maxLocals := 8, code := code, exceptionTable := #[], attributes := #[] }
def k1m2 : Method := { name := "law", desc := "(II)Z", sig := { parameters := [.int, .int], returnType := some .boolean }, accessFlags := 9, code := some k1c2 }
/-- com/example/pipehat/pipehat/Utf8LengthPinLaw -/
def k1 : Class := { plain "com/example/pipehat/pipehat/Utf8LengthPinLaw" (some 0) with
  accessFlags := 49
  interfaces := #[]
  cf := some (fileOf pool1 14 #[] #[{ accessFlags := 2, nameIndex := 5, descriptorIndex := 6, attributes := #[] }, { accessFlags := 10, nameIndex := 17, descriptorIndex := 18, attributes := #[] }, { accessFlags := 9, nameIndex := 25, descriptorIndex := 26, attributes := #[] }] 49 2 #[] #[])
  fields := #[]
  methods := #[k1m0, k1m1, k1m2]
  instanceTypes := #[]
  staticTypes := #[]
  resolved := Array.replicate 29 none
  statics := none }

def pool2 : Array CpInfo := pool [(2, .class_ 4), (1, u "java/lang/Object"), (0, u "<init>"), (0, u "()V"), (7, .class_ 16), (1, u "com/example/pipehat/pipehat/Utf8"), (7, u "length"), (0, u "(B)I")] 2

def k2m0 : Method := { name := "<init>", desc := "()V", sig := { parameters := [], returnType := none }, accessFlags := 2, code := none }
def k2c1 : Code := { maxStack := 2, maxLocals := 2, code := prog_58_method_3_code, exceptionTable := #[], attributes := #[] }
def k2m1 : Method := { name := "length", desc := "(B)I", sig := { parameters := [.byte], returnType := some .int }, accessFlags := 8, code := some k2c1 }
/-- com/example/pipehat/pipehat/Utf8 -/
def k2 : Class := { plain "com/example/pipehat/pipehat/Utf8" (some 0) with
  accessFlags := 48
  interfaces := #[]
  cf := some (fileOf pool2 14 #[] #[{ accessFlags := 2, nameIndex := 5, descriptorIndex := 6, attributes := #[] }, { accessFlags := 8, nameIndex := 24, descriptorIndex := 25, attributes := #[] }] 48 2 #[] #[])
  fields := #[]
  methods := #[k2m0, k2m1]
  instanceTypes := #[]
  staticTypes := #[]
  resolved := Array.replicate 28 none
  statics := none }

def pool3 : Array CpInfo := pool [(1, u "java/lang/Cloneable"), (0, .class_ 1), (0, u "java/lang/Object"), (0, .class_ 3)] 3

/-- java/lang/Cloneable -/
def k3 : Class := { plain "java/lang/Cloneable" (some 0) with
  accessFlags := 1537
  interfaces := #[]
  cf := some (fileOf pool3 2 #[] #[] 1537 4 #[] #[])
  fields := #[]
  methods := #[]
  instanceTypes := #[]
  staticTypes := #[]
  resolved := Array.replicate 8 none
  statics := none }

def pool4 : Array CpInfo := pool [(1, u "java/io/Serializable"), (0, .class_ 1), (0, u "java/lang/Object"), (0, .class_ 3)] 3

/-- java/io/Serializable -/
def k4 : Class := { plain "java/io/Serializable" (some 0) with
  accessFlags := 1537
  interfaces := #[]
  cf := some (fileOf pool4 2 #[] #[] 1537 4 #[] #[])
  fields := #[]
  methods := #[]
  instanceTypes := #[]
  staticTypes := #[]
  resolved := Array.replicate 8 none
  statics := none }

/-- the primitive byte -/
def k5 : Class := { plain "byte" none with kind := .primitive 'B', accessFlags := 0x411 }
/-- [B -/
def k6 : Class := { plain "[B" (some 0) with kind := .array 5 .byte, interfaces := #[3, 4], accessFlags := 1041 }

/-- the primitive int -/
def k7 : Class := { plain "int" none with kind := .primitive 'I', accessFlags := 0x411 }
/-- [I -/
def k8 : Class := { plain "[I" (some 0) with kind := .array 7 .int, interfaces := #[3, 4], accessFlags := 1041 }

def heap : Heap := #[]
def classes : Array Class := #[k0, k1, k2, k3, k4, k5, k6, k7, k8]
def interned : List (Array UInt16 × Addr) := []
def slotsUsed : Nat := 0
def theMethod : MethodId := ⟨1, 2⟩
def args0 : Array Value := #[.int 5, .int 300]
def aboutOver (below : List Frame) : State where
  vm := { classes := classes, interned := interned.toArray }
  heap := heap
  slotsUsed := slotsUsed
  threads := #[{ frames := .invoking theMethod args0 :: below }]
def below0 : List Frame := [.native { method := ⟨0, 0⟩, args := #[] }]
def about1 : State := aboutOver below0
def p0 : Program := .bare "" "" ""
def e0 : Env := launch0.env 0 0 0
theorem w_frames : about1.frames = Frame.invoking theMethod args0 :: below0 := rfl
set_option maxRecDepth 65536 in
theorem w_args : argsFit about1.vm theMethod args0 = true := by decide +kernel
set_option maxRecDepth 65536 in
theorem w_heap : heapFits about1 = true := by decide +kernel
set_option maxRecDepth 65536 in
theorem w_runnable : about1.curStatus? = some .runnable := by decide +kernel
set_option maxRecDepth 65536 in
theorem w_alone : about1.alone = true := by decide +kernel
set_option maxRecDepth 65536 in
theorem w_named : about1.methodNamed? x = some theMethod := by decide +kernel
set_option maxRecDepth 65536 in
theorem w_hears : about1.hears theMethod below0 = true := by decide +kernel
set_option maxRecDepth 65536 in
theorem w_ripe : about1.ripe theMethod args0 below0 = true := by decide +kernel
theorem w_running : about1.status = .running := rfl
set_option maxRecDepth 65536 in
theorem w_room : about1.hasRoom e0.platform room_1 = true :=
  launch0.hasRoom_least _ room_1 (by decide +kernel) (by decide +kernel) (by decide +kernel) (by decide +kernel) (by decide +kernel) (by decide +kernel)
theorem allAtoms_all (ts : List Jvm.Cond) (a : Array Jvm.Value) (st : Jvm.State) : (allAtoms ts).before a st = ts.all (fun c => c.before a st) := by
  induction ts with
  | nil => rfl
  | cons c t ih =>
    show (Jvm.Cond.and c (allAtoms t)).before a st = _
    rw [Jvm.Cond.before_and, ih, List.all_cons]
def words1 : List Jvm.Cond := Jvm.Cond.code x code maxLocals ret :: tables_1
/-- a 'code' word, met by the world's own term for the bytes: nothing is compared byte by byte -/
theorem code_word {y : MethodName} {bytes : ByteArray} {mx : Nat} {rt : Option FieldType} {a : Array Value} {s : State} {m : MethodId} {meth : Method} {c : Code} (h1 : s.methodNamed? y = some m) (h2 : s.vm.method? m = some meth) (h3 : meth.code = some c) (h4 : c.code = bytes)
    (h5 : (c.maxLocals == mx && c.exceptionTable.isEmpty && decide (c.maxStack ≤ mostOperands) && decide (meth.sig.returnType = rt) && !meth.locks && decide (parseMethodDescriptor y.desc = some meth.sig)) = true) : (Jvm.Cond.code y bytes mx rt).before a s = true := by
  simp only [Bool.and_eq_true, beq_iff_eq, Bool.not_eq_true', decide_eq_true_eq] at h5
  obtain ⟨⟨⟨⟨⟨g1, g2⟩, g3⟩, g4⟩, g5⟩, g6⟩ := h5
  simp [Cond.before, Cond.holds, Cond.value, h1, h2, h3, h4, g1, g2, g3, g4, g5, g6]
def isCode : Jvm.Cond → Bool
  | .code _ _ _ _ => true
  | _ => false
theorem all_split {L : List Jvm.Cond} {P : Jvm.Cond → Bool} (h1 : L.all (fun c => isCode c || P c) = true) (h2 : ∀ c ∈ L.filter isCode, P c = true) : L.all P = true := by
  refine List.all_eq_true.mpr fun c hc => ?_
  have h := List.all_eq_true.mp h1 c hc
  rcases Bool.eq_false_or_eq_true (isCode c) with hi | hi
  · exact h2 c (List.mem_filter.mpr ⟨hc, hi⟩)
  · simpa [hi] using h
set_option maxRecDepth 65536 in
theorem w_c0 : (Jvm.Cond.code x code maxLocals ret).before args0 about1 = true := code_word (m := ⟨1, 2⟩) (meth := k1m2) (c := k1c2) (by decide +kernel) rfl rfl rfl (by decide +kernel)
set_option maxRecDepth 65536 in
theorem w_c1 : (Jvm.Cond.code ({ cls := "com/example/pipehat/pipehat/Utf8", name := "length", desc := "(B)I" } : Jvm.MethodName) prog_58_method_3_code (2 : Nat) (Option.some Jvm.ClassFile.FieldType.int)).before args0 about1 = true := code_word (m := ⟨2, 1⟩) (meth := k2m1) (c := k2c1) (by decide +kernel) rfl rfl rfl (by decide +kernel)
set_option maxRecDepth 65536 in
theorem w_c2 : (Jvm.Cond.code ({ cls := "com/example/pipehat/pipehat/Utf8LengthPinLaw", name := "byBits", desc := "(I)I" } : Jvm.MethodName) method_2_code (1 : Nat) (Option.some Jvm.ClassFile.FieldType.int)).before args0 about1 = true := code_word (m := ⟨1, 1⟩) (meth := k1m1) (c := k1c1) (by decide +kernel) rfl rfl rfl (by decide +kernel)
def codes1 : List Jvm.Cond := [Jvm.Cond.code x code maxLocals ret, Jvm.Cond.code ({ cls := "com/example/pipehat/pipehat/Utf8", name := "length", desc := "(B)I" } : Jvm.MethodName) prog_58_method_3_code (2 : Nat) (Option.some Jvm.ClassFile.FieldType.int), Jvm.Cond.code ({ cls := "com/example/pipehat/pipehat/Utf8LengthPinLaw", name := "byBits", desc := "(I)I" } : Jvm.MethodName) method_2_code (1 : Nat) (Option.some Jvm.ClassFile.FieldType.int)]
set_option maxRecDepth 65536 in
theorem codes_eq : words1.filter isCode = codes1 := rfl
theorem w_codes : ∀ c ∈ words1.filter isCode, c.before args0 about1 = true := by
  rw [codes_eq]
  intro c hc
  simp only [codes1, List.mem_cons, List.not_mem_nil, or_false] at hc
  rcases hc with rfl | rfl | rfl
  · exact w_c0
  · exact w_c1
  · exact w_c2
set_option maxRecDepth 65536 in
theorem w_t1 : words1.all (fun c => isCode c || c.before args0 about1) = true := by decide +kernel
theorem w_tables : (allAtoms (Jvm.Cond.code x code maxLocals ret :: tables_1)).before args0 about1 = true := by
  rw [allAtoms_all]
  show words1.all (fun c => c.before args0 about1) = true
  refine all_split ?_ w_codes
  rw [w_t1]
set_option maxRecDepth 65536 in
theorem w_case : (Jvm.Cond.and given_1 narrow_1).before args0 about1 = true := by decide +kernel
theorem w_applies : (headSpec (Jvm.Cond.code x code maxLocals ret :: tables_1) room_1).applies x e0.platform about1 = true :=
  (Spec.applies_iff w_frames).mpr ⟨w_running, w_runnable, w_alone, w_named, w_hears, w_ripe, w_room, w_tables⟩
theorem atStart : AtStart classFile x code maxLocals ret World_1 tables_1 room_1 Calls_1 rest_1 Pre_1 launch0 p0 e0 about1 theMethod args0 below0 :=
  ⟨lists_1, trivial, launch0.admits_env _ _ _, launch0.least_env, fairChoices_fair.cas, fairChoices_fair.clock, w_frames, w_args, w_heap, w_applies, trivial, trivial, w_case⟩
end start1
theorem witness_1 : WitnessClaimed_1 := ⟨start1.p0, start1.e0, start1.about1, start1.theMethod, start1.args0, start1.below0, start1.atStart⟩
end Jvm.Pilot.@@N@@
