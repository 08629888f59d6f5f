import JvmDerived
import JvmDerived.Pilot.@@N@@Statement
import JvmDerived.Pilot.@@N@@Code
set_option linter.unusedVariables false
set_option linter.unusedSimpArgs false
namespace Jvm.RoadKit
open Sem ClassFile Op Lib Jvm.Stand Jvm.Free Jvm.LawKit
section New
variable {p : Program} {l : Launch} {e : Env} {R : Room} {s : State} {m : MethodId} {args : Array Value} {below : List Frame} {meth : Method} {c : Code} {T : State} {locs : List Loc} {cells slots : Nat}
theorem retI (X : Stand p l e R s m args below meth c T locs cells slots) (hx : p.tables.exec = Jvm.exec) {pc : Nat} {Ls : Array Slot} {z : Int32} {rest : List Value} (hret : meth.sig.returnType = some .int) (hd : decode c.code pc = .ok (.ireturn, 1)) {fs : List Frame}
    (hl : ∀ (f : JFrame) (acts : List Action), f.method = m → f.locked = none → f.entered = [] → (doReturn e (T.setTop f) acts (some (.int z))).1 = T.setFrames fs) : Steps p.tables e below (T.setTop (mkF m pc Ls (.int z :: rest))) (T.setFrames fs) := by
  have hm' : T.vm.method? m = some meth := X.method'
  have hn : narrow .int (.int z) = .int z := rfl
  show Steps p.tables e below (T.setTop { method := m, pc := pc, locals := Ls, stack := _ :: rest, locked := none }) _
  jvm_step X.here [X.here.top, hx, hd, hm', hret, hn]
  first | (intro acts; rw [hl _ acts rfl rfl rfl]) | rw [hl _ _ rfl rfl rfl]
  exact Steps.refl _
/-- the run from A ends, and P holds at the end -/
def own_Go (p : Program) (e : Env) (below : List Frame) (A : State) (P : State → Outcome → Prop) : Prop := ∃ s₂ o, Steps p.tables e below A s₂ ∧ s₂.status = .running ∧ Ended s₂ below o ∧ P s₂ o
theorem own_by {A B : State} {P : State → Outcome → Prop} (h : ∀ t, Steps p.tables e below B t → Steps p.tables e below A t) (g : own_Go p e below B P) : own_Go p e below A P := by
  obtain ⟨s2, o, h1, h2⟩ := g
  exact ⟨s2, o, h _ h1, h2⟩
theorem own_end (X : Stand p l e R s m args below meth c T locs cells slots) {v : Option Value} (hv : meth.sig.returnType = none → v = none) (hlk : meth.locks = false) {A : State} {Q : Option Value → Heap → List Loc → Prop} {k n : Nat}
    (hs : ∀ fs, (∀ (f : JFrame) (acts : List Action), f.method = m → f.locked = none → f.entered = [] → (doReturn e (T.setTop f) acts v).1 = T.setFrames fs) → Steps p.tables e below A (T.setFrames fs))
    (hq : Q v T.heap locs) (hk : cells ≤ k) (hn : slots ≤ n) : own_Go p e below A (fun t o => ∃ v L, o = .returned v ∧ Q v t.heap L ∧ FrameEnd s o t L k n) := by
  obtain ⟨fs, hr, hrun, hended, hW, hsame⟩ := X.leave (v := v) hv hlk
  exact ⟨_, _, hs fs hr, hrun, hended, _, _, rfl, hq, ⟨_, rfl⟩, hW, hsame.mono hk hn⟩
theorem own_endW {vm₁ : Vm} (X : Stand p l e R (s.setVm vm₁) m args below meth c T locs cells slots) {n0 : Nat} (hS : s.Since vm₁ n0) (hn0 : n0 ≤ T.heap.size) {v : Option Value} (hv : meth.sig.returnType = none → v = none) (hlk : meth.locks = false) {A : State} {Q : Option Value → Heap → List Loc → Prop} {k n : Nat}
    (hs : ∀ fs, (∀ (f : JFrame) (acts : List Action), f.method = m → f.locked = none → f.entered = [] → (doReturn e (T.setTop f) acts v).1 = T.setFrames fs) → Steps p.tables e below A (T.setFrames fs))
    (hq : Q v T.heap locs) (hk : cells ≤ k) (hn : slots ≤ n) : own_Go p e below A (fun t o => ∃ v L, o = .returned v ∧ Q v t.heap L ∧ ReturnedEndW s o t L k n) := by
  obtain ⟨fs, hr, hrun, hended, h1, h2, h3, h4⟩ := X.leaveW hS hn0 (v := v) hv hlk
  exact ⟨_, _, hs fs hr, hrun, hended, _, _, rfl, hq, h1, h2, h3, h4.mono hk hn⟩
theorem own_newPE {Z : State} {a0 : Array Value} {h : Heap} (X : Stand p l e R s m args below meth c T locs cells slots) (hx : p.tables.exec = Jvm.exec) (hZ : Z.Warmed39 s.vm) {aty : ArrayType} (w : (Cond.arrayClass (newarray.typeOf aty)).before a0 Z = true) (eT : T.heap = h) {g : JFrame} (hg : g.method = m) (hd : decode c.code g.pc = .ok (.newarray aty, 2)) {n : Int32} {rest : List Value} (hs : g.stack = .int n :: rest)
    (hn : ¬ n < 0) {cap : Nat} (hcap : n.toNatClampNeg ≤ cap) (hb : cap * 8 ≤ 536870912) (hc : cells + 1 ≤ R.cells) (hl : slots + cap ≤ R.slots) {ad : String} (had : "[" ++ (newarray.typeOf aty).toString = ad) :
    ∃ T' h' cA, Stand p l e R s m args below meth c T' locs (cells + 1) (slots + cap) ∧ T'.heap = h' ∧ Ext h h' ∧ Arr Z h' h.size (newA cA (newarray.typeOf aty) n) (newarray.typeOf aty) ∧ Exa Z h' h.size ad ∧
      ∀ target, Steps p.tables e below (T'.setTop { g with pc := g.pc + 2, stack := .ref h.size :: rest }) target → Steps p.tables e below (T.setTop g) target := by
  have hcb : componentBytes (newarray.typeOf aty) ≤ 8 := by cases aty <;> decide
  obtain ⟨cA, kA, comp, f1, f2, f3, Y, st⟩ := X.newarrayPrim hx (mvA hZ w) hg hd hs hn (Nat.le_trans (Nat.mul_le_mul hcap hcb) hb) hc (Nat.le_trans (Nat.add_le_add_left hcap _) hl)
  subst eT had
  have f1' : Z.vm.findClass ("[" ++ (newarray.typeOf aty).toString) = some cA := by rw [← hZ.alike.findClass]; exact f1
  obtain ⟨kZ, z1, -⟩ := Vm.findClass_spec f1'
  obtain ⟨k', z2, z3⟩ := hZ.alike.2.2 _ _ z1
  have ek : kA = k' := Option.some.inj (f2.symm.trans z2)
  have kd : kZ.kind = .array comp (newarray.typeOf aty) := by rw [← f3, ek, z3]
  have hN : (T.heap.push (newA cA (newarray.typeOf aty) n))[T.heap.size]? = some (newA cA (newarray.typeOf aty) n) := by simp
  refine ⟨_, _, cA, Y.more (Nat.le_refl _) (Nat.add_le_add_left hcap _), rfl, ext_of fun a q => ?_, ⟨hN, ⟨fun _ z => (by cases z), kZ, z1, comp, kd⟩, fun z => (by cases z)⟩, ⟨_, kZ, hN, f1', z1, rfl, fun ho => by rw [kd] at ho; cases ho⟩, st⟩
  exact (Array.getElem?_push_lt q).trans (Array.getElem?_eq_getElem q).symm
end New
section Arf
variable {Z : State} {h h' : Heap} {a b : Addr} {ty : FieldType} {n z : Int32} {f g : Nat → Value} {sl : Nat} {v : Value} {ws : List Addr} {k : ClassId}
/-- an array of n places, of which place i holds f i -/
def own_Arf (Z : State) (h : Heap) (a : Addr) (ty : FieldType) (n : Int32) (f : Nat → Value) : Prop := ∃ c : Cell, Arr Z h a c ty ∧ c.slots.size = n.toNatClampNeg ∧ ¬ n < 0 ∧ ∀ i, i < c.slots.size → c.slots[i]? = some (f i)
theorem own_Arf.lt (F : own_Arf Z h a ty n f) : a < h.size := by obtain ⟨c, A, -⟩ := F; exact A.lt
theorem own_Arf.ext (F : own_Arf Z h a ty n f) (E : Ext h h') : own_Arf Z h' a ty n f := by obtain ⟨c, A, r⟩ := F; exact ⟨c, A.ext E, r⟩
theorem own_Arf.other (F : own_Arf Z h b ty n f) (W : Wr h h' a sl v) (q : b ≠ a) : own_Arf Z h' b ty n f := by obtain ⟨c, A, r⟩ := F; exact ⟨c, A.other W q, r⟩
theorem own_Arf.keep (F : own_Arf Z h a ty n f) (K : Keep h h' ws) (q : a ∉ ws) : own_Arf Z h' a ty n f := by obtain ⟨c, A, r⟩ := F; exact ⟨c, ⟨K.2.1 a c A.1 q, A.2⟩, r⟩
theorem own_Arf.new (A : Arr Z h a (newA k ty z) ty) (q : ¬ z < 0) : own_Arf Z h a ty z (fun _ => defaultValue ty) := ⟨_, A, sz_new _ _ _, q, fun i hi => by
  rw [sz_new] at hi
  simp [newA, hi]⟩
theorem own_Arf.set (F : own_Arf Z h a ty n f) (W : Wr h h' a sl v) : own_Arf Z h' a ty n (fun i => if i = sl then v else f i) := by
  obtain ⟨c, A, S, N, H⟩ := F
  have hsl : sl < c.slots.size := by
    obtain ⟨c2, e1, -, e3, -⟩ := W
    cases A.1.symm.trans e1
    exact e3
  refine ⟨_, A.same W, by rw [sz_set]; exact S, N, fun i hi => ?_⟩
  rw [sz_set] at hi
  by_cases e : i = sl
  · subst e
    simp [Cell.setSlot, hi]
  · simp only [Cell.setSlot, if_neg e]
    rw [Array.getElem?_setIfInBounds_ne (Ne.symm e)]
    exact H i hi
theorem own_Arf.congr (F : own_Arf Z h a ty n f) (q : ∀ i, i < n.toNatClampNeg → f i = g i) : own_Arf Z h a ty n g := by
  obtain ⟨c, A, S, N, H⟩ := F
  exact ⟨c, A, S, N, fun i hi => by rw [← q i (by rw [← S]; exact hi)]; exact H i hi⟩
theorem own_Arf.at (F : own_Arf Z h a ty n f) {j : Int32} (q : ¬ j < 0 ∧ j < n) : ∃ c : Cell, Arr Z h a c ty ∧ ¬ (j < 0 ∨ c.slots.size ≤ j.toNatClampNeg) ∧ c.slots[j.toNatClampNeg]? = some (f j.toNatClampNeg) := by
  obtain ⟨c, A, S, N, H⟩ := F
  have hin := inb_of S q
  exact ⟨c, A, hin, H _ (Nat.lt_of_not_le fun y => hin (Or.inr y))⟩
theorem own_Arf.nn (F : own_Arf Z h a ty n f) : ¬ n < 0 := by obtain ⟨c, A, S, N, H⟩ := F; exact N
/-- an array of objects of the class C -/
def own_Ovr (Z : State) (h : Heap) (a : Addr) (C : String) : Prop := ∃ (c : Cell) (ty : FieldType), Arr Z h a c ty ∧ Ovr Z c.cls C
theorem own_Ovr.wr {C : String} (W : Wr h h' b sl v) (F : own_Ovr Z h a C) : own_Ovr Z h' a C := by
  obtain ⟨c, ty, A, O⟩ := F
  by_cases e : a = b
  · subst e; exact ⟨_, ty, A.same W, O⟩
  · exact ⟨c, ty, A.other W e, O⟩
theorem own_Ovr.ext {C : String} (F : own_Ovr Z h a C) (E : Ext h h') : own_Ovr Z h' a C := by obtain ⟨c, ty, A, O⟩ := F; exact ⟨c, ty, A.ext E, O⟩
theorem own_Ovr.sto {C : String} {y : Addr} (F : own_Ovr Z h a C) (I : Exa Z h y C) : Sto Z h a (.ref y) := by obtain ⟨c, ty, A, O⟩ := F; exact Sto.of A O (Ins.self I)
theorem own_selp {s : State} {a0 args : Array Value} {y : MethodName} {n : Nat} (hZ : Z.Warmed39 s.vm) (wi : (Cond.instantiable y.cls n).before a0 Z = true) (wn : (Cond.instanceMethod y).before a0 Z = true) (wp : (Cond.privateMethod y).before a0 Z = true) (hy : y.cls ≠ "java/lang/invoke/MethodHandle" ∧ y.cls ≠ "java/lang/invoke/VarHandle") : (Cond.selects y.cls y y).before args s = true := by
  obtain ⟨c2, k2, i1, i2, -, i4, -⟩ := Cond.instantiable_spec (mvT hZ wi : (Cond.instantiable y.cls n).before args s = true)
  simp only [Bool.or_eq_false_iff] at i4
  exact selects_self_of_private i1 i2 i4.1 (Cond.privateMethod_at (mvP hZ wp (args := args))) (mvT hZ wn) hy
theorem own_sta_keep {C n d : String} {w : Value} (F : Sta Z h C n d w) (K : Keep h h' []) : Sta Z h' C n d w := by
  obtain ⟨cf, i, k, f, st, cell, h1, h2, h3, h4, h5, h6⟩ := F
  exact ⟨cf, i, k, f, st, cell, h1, h2, h3, h4, K.2.1 _ _ h5 nin0, h6⟩
theorem own_ofNat_int {m : Nat} (h : m < 2 ^ 31) : (Int32.ofNat m).toInt = m := Int32.toInt_ofNat_of_lt h
theorem own_tn {m : Nat} (h : m < 2 ^ 31) : (Int32.ofNat m).toNatClampNeg = m := by
  show (Int32.ofNat m).toInt.toNat = m
  rw [own_ofNat_int h]; omega
theorem own_nn {m : Nat} (h : m < 2 ^ 31) : ¬ Int32.ofNat m < 0 := by
  rw [Int32.lt_iff_toInt_lt, own_ofNat_int h]; show ¬ (m : Int) < 0; omega
theorem own_ltN {i m : Nat} (h : i < m) (hm : m < 2 ^ 31) : Int32.ofNat i < Int32.ofNat m := by
  rw [Int32.lt_iff_toInt_lt, own_ofNat_int hm, own_ofNat_int (by omega)]; omega
theorem own_in {i m : Nat} (h : i < m) (hm : m < 2 ^ 31) : ¬ Int32.ofNat i < 0 ∧ Int32.ofNat i < Int32.ofNat m := ⟨own_nn (by omega), own_ltN h hm⟩
theorem own_injN {i m : Nat} (hi : i < 2 ^ 31) (hm : m < 2 ^ 31) (e : Int32.ofNat i = Int32.ofNat m) : i = m := by
  have := congrArg Int32.toInt e
  rw [own_ofNat_int hi, own_ofNat_int hm] at this; omega
theorem own_Arf.arv (F : own_Arf Z h a ty n f) (hf : ∀ i, i < n.toNatClampNeg → fits ty (f i) = true) (d : Value) : ∃ k, Arv Z h a k ty n ((List.range n.toNatClampNeg).map f) d := by
  obtain ⟨c, A, S, N, H⟩ := F
  have hg : ∀ i, i < n.toNatClampNeg → ((List.range n.toNatClampNeg).map f).getD i d = f i := fun i hi => by
    simp [List.getD, hi]
  refine ⟨c.cls, c, A, rfl, S, N, fun i hi => ?_, fun i hi => ?_⟩
  · rw [hg i (by rw [← S]; exact hi)]; exact H i hi
  · rw [hg i (by rw [← S]; exact hi)]; exact hf i (by rw [← S]; exact hi)
theorem own_Arf.of {vs : List Value} {d : Value} (F : Arv Z h a k ty n vs d) : own_Arf Z h a ty n (fun i => vs.getD i d) := by
  obtain ⟨c, A, -, S, N, H, -⟩ := F
  exact ⟨c, A, S, N, H⟩
end Arf
end Jvm.RoadKit
namespace Jvm.Pilot.@@N@@
open Jvm Jvm.ClassFile Sem Op Lib Jvm.Free Jvm.Stand Jvm.LawKit Jvm.RoadKit Bundle Jvm.Pilot.@@N@@.Jvm.D
def own_at (i0 : Int32) (w0 w1 w2 w3 w4 w5 w6 w7 w8 w9 w10 w11 w12 w13 : Addr) : Addr := if i0 = 0 then w0 else if i0 = 1 then w1 else if i0 = 2 then w2 else if i0 = 3 then w3 else if i0 = 4 then w4 else if i0 = 5 then w5 else if i0 = 6 then w6 else if i0 = 7 then w7 else if i0 = 8 then w8 else if i0 = 9 then w9 else if i0 = 10 then w10 else if i0 = 11 then w11 else if i0 = 12 then w12 else w13
def own_conn (r0 w8 w9 w10 w11 : Addr) : Int32 := if r0 = w8 then 1 else if r0 = w9 then 1 else if r0 = w10 then 1 else if r0 = w11 then 1 else 0
theorem own_eqi {args : Array Value} {s : State} {t : Term} {k : Int32} (h : (Jvm.Cond.eq t (Term.int k)).value args s none s [] = some true) : t.eval args s none [] s = some (.int k) := by
  simp only [Cond.value, Term.eval] at h
  cases ht : t.eval args s none [] s with
  | none => simp [ht] at h
  | some x => cases x <;> simp [ht] at h ⊢; exact h
theorem own_small {w : Int32} {N : Nat} (h0 : 0 ≤ w.toInt) (h1 : w.toInt < N) : ∃ n : Fin N, w = Int32.ofNat n.1 := by
  refine ⟨⟨w.toInt.toNat, by omega⟩, ?_⟩
  apply Int32.toInt_inj.mp
  have : w.toInt < 2147483648 := w.toInt_lt
  rw [Int32.toInt_ofNat_of_lt (by show w.toInt.toNat < 2 ^ 31; omega)]
  show w.toInt = ((w.toInt.toNat : Nat) : Int)
  omega
theorem own_14 (x : Int32) : (x &&& (2147483647 : Int32)) % (14 : Int32) = 0 ∨ (x &&& (2147483647 : Int32)) % (14 : Int32) = 1 ∨ (x &&& (2147483647 : Int32)) % (14 : Int32) = 2 ∨ (x &&& (2147483647 : Int32)) % (14 : Int32) = 3 ∨ (x &&& (2147483647 : Int32)) % (14 : Int32) = 4 ∨ (x &&& (2147483647 : Int32)) % (14 : Int32) = 5 ∨ (x &&& (2147483647 : Int32)) % (14 : Int32) = 6 ∨ (x &&& (2147483647 : Int32)) % (14 : Int32) = 7 ∨ (x &&& (2147483647 : Int32)) % (14 : Int32) = 8 ∨ (x &&& (2147483647 : Int32)) % (14 : Int32) = 9 ∨ (x &&& (2147483647 : Int32)) % (14 : Int32) = 10 ∨ (x &&& (2147483647 : Int32)) % (14 : Int32) = 11 ∨ (x &&& (2147483647 : Int32)) % (14 : Int32) = 12 ∨ (x &&& (2147483647 : Int32)) % (14 : Int32) = 13 := by
  have h := c_mask x 2147483647 31 (by decide) (by decide)
  have h2 := (c_irem (x &&& 2147483647) 14 14 (by decide)).1 (by omega)
  obtain ⟨n, e⟩ := own_small (w := (x &&& (2147483647 : Int32)) % (14 : Int32)) (N := 14) (by omega) (by omega)
  rw [e]; clear e h h2; revert n; decide
theorem d1_0 : decode method_3_code 0 = .ok (.iload_n 0, 1) := by decide +kernel
theorem d1_1 : decode method_3_code 1 = .ok (.ifCond .ne 7, 3) := by decide +kernel
theorem d1_4 : decode method_3_code 4 = .ok (.getstatic 20, 3) := by decide +kernel
theorem d1_7 : decode method_3_code 7 = .ok (.areturn, 1) := by decide +kernel
theorem d1_8 : decode method_3_code 8 = .ok (.iload_n 0, 1) := by decide +kernel
theorem d1_9 : decode method_3_code 9 = .ok (.iconst 1, 1) := by decide +kernel
theorem d1_10 : decode method_3_code 10 = .ok (.if_icmp .ne 7, 3) := by decide +kernel
theorem d1_13 : decode method_3_code 13 = .ok (.getstatic 24, 3) := by decide +kernel
theorem d1_16 : decode method_3_code 16 = .ok (.areturn, 1) := by decide +kernel
theorem d1_17 : decode method_3_code 17 = .ok (.iload_n 0, 1) := by decide +kernel
theorem d1_18 : decode method_3_code 18 = .ok (.iconst 2, 1) := by decide +kernel
theorem d1_19 : decode method_3_code 19 = .ok (.if_icmp .ne 7, 3) := by decide +kernel
theorem d1_22 : decode method_3_code 22 = .ok (.getstatic 27, 3) := by decide +kernel
theorem d1_25 : decode method_3_code 25 = .ok (.areturn, 1) := by decide +kernel
theorem d1_26 : decode method_3_code 26 = .ok (.iload_n 0, 1) := by decide +kernel
theorem d1_27 : decode method_3_code 27 = .ok (.iconst 3, 1) := by decide +kernel
theorem d1_28 : decode method_3_code 28 = .ok (.if_icmp .ne 7, 3) := by decide +kernel
theorem d1_31 : decode method_3_code 31 = .ok (.getstatic 30, 3) := by decide +kernel
theorem d1_34 : decode method_3_code 34 = .ok (.areturn, 1) := by decide +kernel
theorem d1_35 : decode method_3_code 35 = .ok (.iload_n 0, 1) := by decide +kernel
theorem d1_36 : decode method_3_code 36 = .ok (.iconst 4, 1) := by decide +kernel
theorem d1_37 : decode method_3_code 37 = .ok (.if_icmp .ne 7, 3) := by decide +kernel
theorem d1_40 : decode method_3_code 40 = .ok (.getstatic 33, 3) := by decide +kernel
theorem d1_43 : decode method_3_code 43 = .ok (.areturn, 1) := by decide +kernel
theorem d1_44 : decode method_3_code 44 = .ok (.iload_n 0, 1) := by decide +kernel
theorem d1_45 : decode method_3_code 45 = .ok (.iconst 5, 1) := by decide +kernel
theorem d1_46 : decode method_3_code 46 = .ok (.if_icmp .ne 7, 3) := by decide +kernel
theorem d1_49 : decode method_3_code 49 = .ok (.getstatic 36, 3) := by decide +kernel
theorem d1_52 : decode method_3_code 52 = .ok (.areturn, 1) := by decide +kernel
theorem d1_53 : decode method_3_code 53 = .ok (.iload_n 0, 1) := by decide +kernel
theorem d1_54 : decode method_3_code 54 = .ok (.bipush 6, 2) := by decide +kernel
theorem d1_56 : decode method_3_code 56 = .ok (.if_icmp .ne 7, 3) := by decide +kernel
theorem d1_59 : decode method_3_code 59 = .ok (.getstatic 39, 3) := by decide +kernel
theorem d1_62 : decode method_3_code 62 = .ok (.areturn, 1) := by decide +kernel
theorem d1_63 : decode method_3_code 63 = .ok (.iload_n 0, 1) := by decide +kernel
theorem d1_64 : decode method_3_code 64 = .ok (.bipush 7, 2) := by decide +kernel
theorem d1_66 : decode method_3_code 66 = .ok (.if_icmp .ne 7, 3) := by decide +kernel
theorem d1_69 : decode method_3_code 69 = .ok (.getstatic 42, 3) := by decide +kernel
theorem d1_72 : decode method_3_code 72 = .ok (.areturn, 1) := by decide +kernel
theorem d1_73 : decode method_3_code 73 = .ok (.iload_n 0, 1) := by decide +kernel
theorem d1_74 : decode method_3_code 74 = .ok (.bipush 8, 2) := by decide +kernel
theorem d1_76 : decode method_3_code 76 = .ok (.if_icmp .ne 7, 3) := by decide +kernel
theorem d1_79 : decode method_3_code 79 = .ok (.getstatic 45, 3) := by decide +kernel
theorem d1_82 : decode method_3_code 82 = .ok (.areturn, 1) := by decide +kernel
theorem d1_83 : decode method_3_code 83 = .ok (.iload_n 0, 1) := by decide +kernel
theorem d1_84 : decode method_3_code 84 = .ok (.bipush 9, 2) := by decide +kernel
theorem d1_86 : decode method_3_code 86 = .ok (.if_icmp .ne 7, 3) := by decide +kernel
theorem d1_89 : decode method_3_code 89 = .ok (.getstatic 48, 3) := by decide +kernel
theorem d1_92 : decode method_3_code 92 = .ok (.areturn, 1) := by decide +kernel
theorem d1_93 : decode method_3_code 93 = .ok (.iload_n 0, 1) := by decide +kernel
theorem d1_94 : decode method_3_code 94 = .ok (.bipush 10, 2) := by decide +kernel
theorem d1_96 : decode method_3_code 96 = .ok (.if_icmp .ne 7, 3) := by decide +kernel
theorem d1_99 : decode method_3_code 99 = .ok (.getstatic 51, 3) := by decide +kernel
theorem d1_102 : decode method_3_code 102 = .ok (.areturn, 1) := by decide +kernel
theorem d1_103 : decode method_3_code 103 = .ok (.iload_n 0, 1) := by decide +kernel
theorem d1_104 : decode method_3_code 104 = .ok (.bipush 11, 2) := by decide +kernel
theorem d1_106 : decode method_3_code 106 = .ok (.if_icmp .ne 7, 3) := by decide +kernel
theorem d1_109 : decode method_3_code 109 = .ok (.getstatic 54, 3) := by decide +kernel
theorem d1_112 : decode method_3_code 112 = .ok (.areturn, 1) := by decide +kernel
theorem d1_113 : decode method_3_code 113 = .ok (.iload_n 0, 1) := by decide +kernel
theorem d1_114 : decode method_3_code 114 = .ok (.bipush 12, 2) := by decide +kernel
theorem d1_116 : decode method_3_code 116 = .ok (.if_icmp .ne 7, 3) := by decide +kernel
theorem d1_119 : decode method_3_code 119 = .ok (.getstatic 57, 3) := by decide +kernel
theorem d1_122 : decode method_3_code 122 = .ok (.areturn, 1) := by decide +kernel
theorem d1_123 : decode method_3_code 123 = .ok (.getstatic 60, 3) := by decide +kernel
theorem d1_126 : decode method_3_code 126 = .ok (.areturn, 1) := by decide +kernel
theorem own_pn0 : plainName "com/example/processes_as_trees/processesastrees/OperationIsConnectivePinLaw" = true := by first | (simp [plainName, overriddenIn]; done) | decide +kernel
theorem ef_rmP (m : MethodId) (x0 : Int32) : entryFrame m #[(.int x0)] 1 = mkF m 0 #[.val (.int x0)] [] := by first | (simp [entryFrame, mkF, argsToLocals, Value.category]; done) | rfl
def Q_rmP (Z : State) (i0 : Int32) (w0 : Addr) (w1 : Addr) (w2 : Addr) (w3 : Addr) (w4 : Addr) (w5 : Addr) (w6 : Addr) (w7 : Addr) (w8 : Addr) (w9 : Addr) (w10 : Addr) (w11 : Addr) (w12 : Addr) (w13 : Addr) (h0 : Heap) (n0 : Nat) (v : Option Value) (h : Heap) (L : List Loc) : Prop := v = some (.ref (own_at i0 w0 w1 w2 w3 w4 w5 w6 w7 w8 w9 w10 w11 w12 w13)) ∧ Fr n0 L ∧ h = h0
set_option maxRecDepth 65536 in
set_option maxHeartbeats 40000000 in
theorem rmP (l : Launch) (Z : State) (a0 : Array Value) (hw : ∀ d ∈ tables_1, d.before a0 Z = true) (ws : List Jvm.Cond) (i0 : Int32) (w0 : Addr) (w1 : Addr) (w2 : Addr) (w3 : Addr) (w4 : Addr) (w5 : Addr) (w6 : Addr) (w7 : Addr) (w8 : Addr) (w9 : Addr) (w10 : Addr) (w11 : Addr) (w12 : Addr) (w13 : Addr) (h0 : Heap) (n0 : Nat) (Z0 : n0 ≤ h0.size) (S_0 : Sta Z h0 "com/example/processes_as_trees/processesastrees/Formula$Operation" "TRUE" "Lcom/example/processes_as_trees/processesastrees/Formula$Operation;" (.ref w0)) (S_1 : Sta Z h0 "com/example/processes_as_trees/processesastrees/Formula$Operation" "FALSE" "Lcom/example/processes_as_trees/processesastrees/Formula$Operation;" (.ref w1)) (S_2 : Sta Z h0 "com/example/processes_as_trees/processesastrees/Formula$Operation" "TERMINATED" "Lcom/example/processes_as_trees/processesastrees/Formula$Operation;" (.ref w2)) (S_3 : Sta Z h0 "com/example/processes_as_trees/processesastrees/Formula$Operation" "HAS" "Lcom/example/processes_as_trees/processesastrees/Formula$Operation;" (.ref w3)) (S_4 : Sta Z h0 "com/example/processes_as_trees/processesastrees/Formula$Operation" "ACTIVE" "Lcom/example/processes_as_trees/processesastrees/Formula$Operation;" (.ref w4)) (S_5 : Sta Z h0 "com/example/processes_as_trees/processesastrees/Formula$Operation" "ENABLED" "Lcom/example/processes_as_trees/processesastrees/Formula$Operation;" (.ref w5)) (S_6 : Sta Z h0 "com/example/processes_as_trees/processesastrees/Formula$Operation" "FIRES" "Lcom/example/processes_as_trees/processesastrees/Formula$Operation;" (.ref w6)) (S_7 : Sta Z h0 "com/example/processes_as_trees/processesastrees/Formula$Operation" "IN" "Lcom/example/processes_as_trees/processesastrees/Formula$Operation;" (.ref w7)) (S_8 : Sta Z h0 "com/example/processes_as_trees/processesastrees/Formula$Operation" "NOT" "Lcom/example/processes_as_trees/processesastrees/Formula$Operation;" (.ref w8)) (S_9 : Sta Z h0 "com/example/processes_as_trees/processesastrees/Formula$Operation" "AND" "Lcom/example/processes_as_trees/processesastrees/Formula$Operation;" (.ref w9)) (S_10 : Sta Z h0 "com/example/processes_as_trees/processesastrees/Formula$Operation" "OR" "Lcom/example/processes_as_trees/processesastrees/Formula$Operation;" (.ref w10)) (S_11 : Sta Z h0 "com/example/processes_as_trees/processesastrees/Formula$Operation" "IMPLIES" "Lcom/example/processes_as_trees/processesastrees/Formula$Operation;" (.ref w11)) (S_12 : Sta Z h0 "com/example/processes_as_trees/processesastrees/Formula$Operation" "EX" "Lcom/example/processes_as_trees/processesastrees/Formula$Operation;" (.ref w12)) (S_13 : Sta Z h0 "com/example/processes_as_trees/processesastrees/Formula$Operation" "EF" "Lcom/example/processes_as_trees/processesastrees/Formula$Operation;" (.ref w13)) :
    MetFree l (⟨"com/example/processes_as_trees/processesastrees/OperationIsConnectivePinLaw", "pick", "(I)Lcom/example/processes_as_trees/processesastrees/Formula$Operation;"⟩ : MethodName) (head1 (Jvm.Cond.code (⟨"com/example/processes_as_trees/processesastrees/OperationIsConnectivePinLaw", "pick", "(I)Lcom/example/processes_as_trees/processesastrees/Formula$Operation;"⟩ : MethodName) method_3_code 1 (some (.object "com/example/processes_as_trees/processesastrees/Formula$Operation")) :: ws) ({ frames := 0, cells := 0, slots := 0, locals := 0 } : Room)) (fun a U => a = #[(.int i0)] ∧ Z.Warmed39 U.vm ∧ U.heap = h0) (fun _ _ _ _ _ => True) (fun _ U o U' => ∃ v L, o = .returned v ∧ Q_rmP Z i0 w0 w1 w2 w3 w4 w5 w6 w7 w8 w9 w10 w11 w12 w13 h0 n0 v U'.heap L ∧ FrameEnd U o U' L ({ frames := 0, cells := 0, slots := 0, locals := 0 } : Room).cells ({ frames := 0, cells := 0, slots := 0, locals := 0 } : Room).slots) := by
  refine MetFree.of_bodySF (plainFor_of_name own_pn0) hisR ?_
  intro p e s m args below meth c s₁ Bd hml0 hP hK
  obtain ⟨rfl, hZ, hh⟩ := hP
  have hx := Bd.exec
  have hby := Bd.bytes
  have hml : c.maxLocals = 1 := hml0
  have hown : s.vm.findClass "com/example/processes_as_trees/processesastrees/OperationIsConnectivePinLaw" = some m.cls := findClass_of_methodNamed Bd.named
  have hnm := (name_of_methodNamed Bd.named Bd.method).1
  have X0 : Stand p l e ({ frames := 0, cells := 0, slots := 0, locals := 0 } : Room) s m #[(.int i0)] below meth c s₁ [] 0 0 := Stand.of_body Bd
  have e0 : s₁.heap = h0 := by rw [← hh, Bd.state]; rfl
  show own_Go p e below (s₁.setTop (entryFrame m #[(.int i0)] 1)) (fun t o => ∃ v L, o = .returned v ∧ Q_rmP Z i0 w0 w1 w2 w3 w4 w5 w6 w7 w8 w9 w10 w11 w12 w13 h0 n0 v t.heap L ∧ FrameEnd s o t L ({ frames := 0, cells := 0, slots := 0, locals := 0 } : Room).cells ({ frames := 0, cells := 0, slots := 0, locals := 0 } : Room).slots)
  refine own_by (B := s₁.setTop (mkF m 0 #[.val (.int i0)] [])) (fun t k => castTop (ef_rmP m i0) k) ?_
  have Nf := Fr.nil n0
  have Zs := Z0
  refine own_by (B := s₁.setTop (mkF m 1 #[.val (.int i0)] [(.int i0)])) (fun t k => XS.iloadN X0.here hx rfl (hb hby d1_0) rfl k) ?_
  by_cases hc1 : i0 = (0 : Int32)
  · refine own_by (B := s₁.setTop (mkF m 4 #[.val (.int i0)] [])) (fun t k => XS.ifNo X0.here hx rfl (hb hby d1_1) rfl ((if0 _ _).trans (teq hc1).2) k) ?_
    obtain ⟨T1, X1, e1, st1⟩ := getS2 X0 hx hZ hown (host := "") (Or.inl (hw _ (List.mem_of_getElem? (i := 5) rfl))) Via.refl e0 S_0 (g := (mkF m 4 #[.val (.int i0)] [])) rfl (hb hby d1_4)
    refine own_by (B := T1.setTop (mkF m 7 #[.val (.int i0)] [(.ref w0)])) st1 ?_
    exact own_end X1 (v := some (.ref w0)) (fun h => by rw [Bd.returns] at h; cases h) (BodyLoose.notSynchronized Bd) (Q := (Q_rmP Z i0 w0 w1 w2 w3 w4 w5 w6 w7 w8 w9 w10 w11 w12 w13 h0 n0)) (fun fs hr => retOut X1 hx (t := (.object "com/example/processes_as_trees/processesastrees/Formula$Operation")) Bd.returns rfl (Or.inr (Or.inr (Or.inr (Or.inr ⟨rfl, rfl, rfl⟩)))) (hb hby d1_7) hr) (show (Q_rmP Z i0 w0 w1 w2 w3 w4 w5 w6 w7 w8 w9 w10 w11 w12 w13 h0 n0) _ T1.heap _ from (by rw [e1]; exact ⟨congrArg (fun z => some (Value.ref z)) (by simp [own_at, hc1]), Nf, rfl⟩)) (by decide) (by decide)
  · refine own_by (B := s₁.setTop (mkF m 8 #[.val (.int i0)] [])) (fun t k => XS.ifYes X0.here hx rfl (pc0 := 1) (pc' := 8) rfl (hb hby d1_1) rfl ((if0 _ _).trans (feq hc1).2) (by decide) (by decide) k) ?_
    refine own_by (B := s₁.setTop (mkF m 9 #[.val (.int i0)] [(.int i0)])) (fun t k => XS.iloadN X0.here hx rfl (hb hby d1_8) rfl k) ?_
    refine own_by (B := s₁.setTop (mkF m 10 #[.val (.int i0)] [(.int (1 : Int32)), (.int i0)])) (fun t k => XS.iconst X0.here hx rfl (hb hby d1_9) k) ?_
    by_cases hc10 : i0 = (1 : Int32)
    · refine own_by (B := s₁.setTop (mkF m 13 #[.val (.int i0)] [])) (fun t k => XS.icmpNo X0.here hx rfl (hb hby d1_10) rfl (teq hc10).2 k) ?_
      obtain ⟨T2, X2, e2, st2⟩ := getS2 X0 hx hZ hown (host := "") (Or.inl (hw _ (List.mem_of_getElem? (i := 36) rfl))) Via.refl e0 S_1 (g := (mkF m 13 #[.val (.int i0)] [])) rfl (hb hby d1_13)
      refine own_by (B := T2.setTop (mkF m 16 #[.val (.int i0)] [(.ref w1)])) st2 ?_
      exact own_end X2 (v := some (.ref w1)) (fun h => by rw [Bd.returns] at h; cases h) (BodyLoose.notSynchronized Bd) (Q := (Q_rmP Z i0 w0 w1 w2 w3 w4 w5 w6 w7 w8 w9 w10 w11 w12 w13 h0 n0)) (fun fs hr => retOut X2 hx (t := (.object "com/example/processes_as_trees/processesastrees/Formula$Operation")) Bd.returns rfl (Or.inr (Or.inr (Or.inr (Or.inr ⟨rfl, rfl, rfl⟩)))) (hb hby d1_16) hr) (show (Q_rmP Z i0 w0 w1 w2 w3 w4 w5 w6 w7 w8 w9 w10 w11 w12 w13 h0 n0) _ T2.heap _ from (by rw [e2]; exact ⟨congrArg (fun z => some (Value.ref z)) (by simp [own_at, hc1, hc10]), Nf, rfl⟩)) (by decide) (by decide)
    · refine own_by (B := s₁.setTop (mkF m 17 #[.val (.int i0)] [])) (fun t k => XS.icmpYes X0.here hx rfl (pc0 := 10) (pc' := 17) rfl (hb hby d1_10) rfl (feq hc10).2 (by decide) (by decide) k) ?_
      refine own_by (B := s₁.setTop (mkF m 18 #[.val (.int i0)] [(.int i0)])) (fun t k => XS.iloadN X0.here hx rfl (hb hby d1_17) rfl k) ?_
      refine own_by (B := s₁.setTop (mkF m 19 #[.val (.int i0)] [(.int (2 : Int32)), (.int i0)])) (fun t k => XS.iconst X0.here hx rfl (hb hby d1_18) k) ?_
      by_cases hc19 : i0 = (2 : Int32)
      · refine own_by (B := s₁.setTop (mkF m 22 #[.val (.int i0)] [])) (fun t k => XS.icmpNo X0.here hx rfl (hb hby d1_19) rfl (teq hc19).2 k) ?_
        obtain ⟨T3, X3, e3, st3⟩ := getS2 X0 hx hZ hown (host := "") (Or.inl (hw _ (List.mem_of_getElem? (i := 31) rfl))) Via.refl e0 S_2 (g := (mkF m 22 #[.val (.int i0)] [])) rfl (hb hby d1_22)
        refine own_by (B := T3.setTop (mkF m 25 #[.val (.int i0)] [(.ref w2)])) st3 ?_
        exact own_end X3 (v := some (.ref w2)) (fun h => by rw [Bd.returns] at h; cases h) (BodyLoose.notSynchronized Bd) (Q := (Q_rmP Z i0 w0 w1 w2 w3 w4 w5 w6 w7 w8 w9 w10 w11 w12 w13 h0 n0)) (fun fs hr => retOut X3 hx (t := (.object "com/example/processes_as_trees/processesastrees/Formula$Operation")) Bd.returns rfl (Or.inr (Or.inr (Or.inr (Or.inr ⟨rfl, rfl, rfl⟩)))) (hb hby d1_25) hr) (show (Q_rmP Z i0 w0 w1 w2 w3 w4 w5 w6 w7 w8 w9 w10 w11 w12 w13 h0 n0) _ T3.heap _ from (by rw [e3]; exact ⟨congrArg (fun z => some (Value.ref z)) (by simp [own_at, hc1, hc10, hc19]), Nf, rfl⟩)) (by decide) (by decide)
      · refine own_by (B := s₁.setTop (mkF m 26 #[.val (.int i0)] [])) (fun t k => XS.icmpYes X0.here hx rfl (pc0 := 19) (pc' := 26) rfl (hb hby d1_19) rfl (feq hc19).2 (by decide) (by decide) k) ?_
        refine own_by (B := s₁.setTop (mkF m 27 #[.val (.int i0)] [(.int i0)])) (fun t k => XS.iloadN X0.here hx rfl (hb hby d1_26) rfl k) ?_
        refine own_by (B := s₁.setTop (mkF m 28 #[.val (.int i0)] [(.int (3 : Int32)), (.int i0)])) (fun t k => XS.iconst X0.here hx rfl (hb hby d1_27) k) ?_
        by_cases hc28 : i0 = (3 : Int32)
        · refine own_by (B := s₁.setTop (mkF m 31 #[.val (.int i0)] [])) (fun t k => XS.icmpNo X0.here hx rfl (hb hby d1_28) rfl (teq hc28).2 k) ?_
          obtain ⟨T4, X4, e4, st4⟩ := getS2 X0 hx hZ hown (host := "") (Or.inl (hw _ (List.mem_of_getElem? (i := 21) rfl))) Via.refl e0 S_3 (g := (mkF m 31 #[.val (.int i0)] [])) rfl (hb hby d1_31)
          refine own_by (B := T4.setTop (mkF m 34 #[.val (.int i0)] [(.ref w3)])) st4 ?_
          exact own_end X4 (v := some (.ref w3)) (fun h => by rw [Bd.returns] at h; cases h) (BodyLoose.notSynchronized Bd) (Q := (Q_rmP Z i0 w0 w1 w2 w3 w4 w5 w6 w7 w8 w9 w10 w11 w12 w13 h0 n0)) (fun fs hr => retOut X4 hx (t := (.object "com/example/processes_as_trees/processesastrees/Formula$Operation")) Bd.returns rfl (Or.inr (Or.inr (Or.inr (Or.inr ⟨rfl, rfl, rfl⟩)))) (hb hby d1_34) hr) (show (Q_rmP Z i0 w0 w1 w2 w3 w4 w5 w6 w7 w8 w9 w10 w11 w12 w13 h0 n0) _ T4.heap _ from (by rw [e4]; exact ⟨congrArg (fun z => some (Value.ref z)) (by simp [own_at, hc1, hc10, hc19, hc28]), Nf, rfl⟩)) (by decide) (by decide)
        · refine own_by (B := s₁.setTop (mkF m 35 #[.val (.int i0)] [])) (fun t k => XS.icmpYes X0.here hx rfl (pc0 := 28) (pc' := 35) rfl (hb hby d1_28) rfl (feq hc28).2 (by decide) (by decide) k) ?_
          refine own_by (B := s₁.setTop (mkF m 36 #[.val (.int i0)] [(.int i0)])) (fun t k => XS.iloadN X0.here hx rfl (hb hby d1_35) rfl k) ?_
          refine own_by (B := s₁.setTop (mkF m 37 #[.val (.int i0)] [(.int (4 : Int32)), (.int i0)])) (fun t k => XS.iconst X0.here hx rfl (hb hby d1_36) k) ?_
          by_cases hc37 : i0 = (4 : Int32)
          · refine own_by (B := s₁.setTop (mkF m 40 #[.val (.int i0)] [])) (fun t k => XS.icmpNo X0.here hx rfl (hb hby d1_37) rfl (teq hc37).2 k) ?_
            obtain ⟨T5, X5, e5, st5⟩ := getS2 X0 hx hZ hown (host := "") (Or.inl (hw _ (List.mem_of_getElem? (i := 27) rfl))) Via.refl e0 S_4 (g := (mkF m 40 #[.val (.int i0)] [])) rfl (hb hby d1_40)
            refine own_by (B := T5.setTop (mkF m 43 #[.val (.int i0)] [(.ref w4)])) st5 ?_
            exact own_end X5 (v := some (.ref w4)) (fun h => by rw [Bd.returns] at h; cases h) (BodyLoose.notSynchronized Bd) (Q := (Q_rmP Z i0 w0 w1 w2 w3 w4 w5 w6 w7 w8 w9 w10 w11 w12 w13 h0 n0)) (fun fs hr => retOut X5 hx (t := (.object "com/example/processes_as_trees/processesastrees/Formula$Operation")) Bd.returns rfl (Or.inr (Or.inr (Or.inr (Or.inr ⟨rfl, rfl, rfl⟩)))) (hb hby d1_43) hr) (show (Q_rmP Z i0 w0 w1 w2 w3 w4 w5 w6 w7 w8 w9 w10 w11 w12 w13 h0 n0) _ T5.heap _ from (by rw [e5]; exact ⟨congrArg (fun z => some (Value.ref z)) (by simp [own_at, hc1, hc10, hc19, hc28, hc37]), Nf, rfl⟩)) (by decide) (by decide)
          · refine own_by (B := s₁.setTop (mkF m 44 #[.val (.int i0)] [])) (fun t k => XS.icmpYes X0.here hx rfl (pc0 := 37) (pc' := 44) rfl (hb hby d1_37) rfl (feq hc37).2 (by decide) (by decide) k) ?_
            refine own_by (B := s₁.setTop (mkF m 45 #[.val (.int i0)] [(.int i0)])) (fun t k => XS.iloadN X0.here hx rfl (hb hby d1_44) rfl k) ?_
            refine own_by (B := s₁.setTop (mkF m 46 #[.val (.int i0)] [(.int (5 : Int32)), (.int i0)])) (fun t k => XS.iconst X0.here hx rfl (hb hby d1_45) k) ?_
            by_cases hc46 : i0 = (5 : Int32)
            · refine own_by (B := s₁.setTop (mkF m 49 #[.val (.int i0)] [])) (fun t k => XS.icmpNo X0.here hx rfl (hb hby d1_46) rfl (teq hc46).2 k) ?_
              obtain ⟨T6, X6, e6, st6⟩ := getS2 X0 hx hZ hown (host := "") (Or.inl (hw _ (List.mem_of_getElem? (i := 39) rfl))) Via.refl e0 S_5 (g := (mkF m 49 #[.val (.int i0)] [])) rfl (hb hby d1_49)
              refine own_by (B := T6.setTop (mkF m 52 #[.val (.int i0)] [(.ref w5)])) st6 ?_
              exact own_end X6 (v := some (.ref w5)) (fun h => by rw [Bd.returns] at h; cases h) (BodyLoose.notSynchronized Bd) (Q := (Q_rmP Z i0 w0 w1 w2 w3 w4 w5 w6 w7 w8 w9 w10 w11 w12 w13 h0 n0)) (fun fs hr => retOut X6 hx (t := (.object "com/example/processes_as_trees/processesastrees/Formula$Operation")) Bd.returns rfl (Or.inr (Or.inr (Or.inr (Or.inr ⟨rfl, rfl, rfl⟩)))) (hb hby d1_52) hr) (show (Q_rmP Z i0 w0 w1 w2 w3 w4 w5 w6 w7 w8 w9 w10 w11 w12 w13 h0 n0) _ T6.heap _ from (by rw [e6]; exact ⟨congrArg (fun z => some (Value.ref z)) (by simp [own_at, hc1, hc10, hc19, hc28, hc37, hc46]), Nf, rfl⟩)) (by decide) (by decide)
            · refine own_by (B := s₁.setTop (mkF m 53 #[.val (.int i0)] [])) (fun t k => XS.icmpYes X0.here hx rfl (pc0 := 46) (pc' := 53) rfl (hb hby d1_46) rfl (feq hc46).2 (by decide) (by decide) k) ?_
              refine own_by (B := s₁.setTop (mkF m 54 #[.val (.int i0)] [(.int i0)])) (fun t k => XS.iloadN X0.here hx rfl (hb hby d1_53) rfl k) ?_
              refine own_by (B := s₁.setTop (mkF m 56 #[.val (.int i0)] [(.int (6 : Int32)), (.int i0)])) (fun t k => XS.bipush X0.here hx rfl (hb hby d1_54) k) ?_
              by_cases hc56 : i0 = (6 : Int32)
              · refine own_by (B := s₁.setTop (mkF m 59 #[.val (.int i0)] [])) (fun t k => XS.icmpNo X0.here hx rfl (hb hby d1_56) rfl (teq hc56).2 k) ?_
                obtain ⟨T7, X7, e7, st7⟩ := getS2 X0 hx hZ hown (host := "") (Or.inl (hw _ (List.mem_of_getElem? (i := 41) rfl))) Via.refl e0 S_6 (g := (mkF m 59 #[.val (.int i0)] [])) rfl (hb hby d1_59)
                refine own_by (B := T7.setTop (mkF m 62 #[.val (.int i0)] [(.ref w6)])) st7 ?_
                exact own_end X7 (v := some (.ref w6)) (fun h => by rw [Bd.returns] at h; cases h) (BodyLoose.notSynchronized Bd) (Q := (Q_rmP Z i0 w0 w1 w2 w3 w4 w5 w6 w7 w8 w9 w10 w11 w12 w13 h0 n0)) (fun fs hr => retOut X7 hx (t := (.object "com/example/processes_as_trees/processesastrees/Formula$Operation")) Bd.returns rfl (Or.inr (Or.inr (Or.inr (Or.inr ⟨rfl, rfl, rfl⟩)))) (hb hby d1_62) hr) (show (Q_rmP Z i0 w0 w1 w2 w3 w4 w5 w6 w7 w8 w9 w10 w11 w12 w13 h0 n0) _ T7.heap _ from (by rw [e7]; exact ⟨congrArg (fun z => some (Value.ref z)) (by simp [own_at, hc1, hc10, hc19, hc28, hc37, hc46, hc56]), Nf, rfl⟩)) (by decide) (by decide)
              · refine own_by (B := s₁.setTop (mkF m 63 #[.val (.int i0)] [])) (fun t k => XS.icmpYes X0.here hx rfl (pc0 := 56) (pc' := 63) rfl (hb hby d1_56) rfl (feq hc56).2 (by decide) (by decide) k) ?_
                refine own_by (B := s₁.setTop (mkF m 64 #[.val (.int i0)] [(.int i0)])) (fun t k => XS.iloadN X0.here hx rfl (hb hby d1_63) rfl k) ?_
                refine own_by (B := s₁.setTop (mkF m 66 #[.val (.int i0)] [(.int (7 : Int32)), (.int i0)])) (fun t k => XS.bipush X0.here hx rfl (hb hby d1_64) k) ?_
                by_cases hc66 : i0 = (7 : Int32)
                · refine own_by (B := s₁.setTop (mkF m 69 #[.val (.int i0)] [])) (fun t k => XS.icmpNo X0.here hx rfl (hb hby d1_66) rfl (teq hc66).2 k) ?_
                  obtain ⟨T8, X8, e8, st8⟩ := getS2 X0 hx hZ hown (host := "") (Or.inl (hw _ (List.mem_of_getElem? (i := 29) rfl))) Via.refl e0 S_7 (g := (mkF m 69 #[.val (.int i0)] [])) rfl (hb hby d1_69)
                  refine own_by (B := T8.setTop (mkF m 72 #[.val (.int i0)] [(.ref w7)])) st8 ?_
                  exact own_end X8 (v := some (.ref w7)) (fun h => by rw [Bd.returns] at h; cases h) (BodyLoose.notSynchronized Bd) (Q := (Q_rmP Z i0 w0 w1 w2 w3 w4 w5 w6 w7 w8 w9 w10 w11 w12 w13 h0 n0)) (fun fs hr => retOut X8 hx (t := (.object "com/example/processes_as_trees/processesastrees/Formula$Operation")) Bd.returns rfl (Or.inr (Or.inr (Or.inr (Or.inr ⟨rfl, rfl, rfl⟩)))) (hb hby d1_72) hr) (show (Q_rmP Z i0 w0 w1 w2 w3 w4 w5 w6 w7 w8 w9 w10 w11 w12 w13 h0 n0) _ T8.heap _ from (by rw [e8]; exact ⟨congrArg (fun z => some (Value.ref z)) (by simp [own_at, hc1, hc10, hc19, hc28, hc37, hc46, hc56, hc66]), Nf, rfl⟩)) (by decide) (by decide)
                · refine own_by (B := s₁.setTop (mkF m 73 #[.val (.int i0)] [])) (fun t k => XS.icmpYes X0.here hx rfl (pc0 := 66) (pc' := 73) rfl (hb hby d1_66) rfl (feq hc66).2 (by decide) (by decide) k) ?_
                  refine own_by (B := s₁.setTop (mkF m 74 #[.val (.int i0)] [(.int i0)])) (fun t k => XS.iloadN X0.here hx rfl (hb hby d1_73) rfl k) ?_
                  refine own_by (B := s₁.setTop (mkF m 76 #[.val (.int i0)] [(.int (8 : Int32)), (.int i0)])) (fun t k => XS.bipush X0.here hx rfl (hb hby d1_74) k) ?_
                  by_cases hc76 : i0 = (8 : Int32)
                  · refine own_by (B := s₁.setTop (mkF m 79 #[.val (.int i0)] [])) (fun t k => XS.icmpNo X0.here hx rfl (hb hby d1_76) rfl (teq hc76).2 k) ?_
                    obtain ⟨T9, X9, e9, st9⟩ := getS2 X0 hx hZ hown (host := "") (Or.inl (hw _ (List.mem_of_getElem? (i := 35) rfl))) Via.refl e0 S_8 (g := (mkF m 79 #[.val (.int i0)] [])) rfl (hb hby d1_79)
                    refine own_by (B := T9.setTop (mkF m 82 #[.val (.int i0)] [(.ref w8)])) st9 ?_
                    exact own_end X9 (v := some (.ref w8)) (fun h => by rw [Bd.returns] at h; cases h) (BodyLoose.notSynchronized Bd) (Q := (Q_rmP Z i0 w0 w1 w2 w3 w4 w5 w6 w7 w8 w9 w10 w11 w12 w13 h0 n0)) (fun fs hr => retOut X9 hx (t := (.object "com/example/processes_as_trees/processesastrees/Formula$Operation")) Bd.returns rfl (Or.inr (Or.inr (Or.inr (Or.inr ⟨rfl, rfl, rfl⟩)))) (hb hby d1_82) hr) (show (Q_rmP Z i0 w0 w1 w2 w3 w4 w5 w6 w7 w8 w9 w10 w11 w12 w13 h0 n0) _ T9.heap _ from (by rw [e9]; exact ⟨congrArg (fun z => some (Value.ref z)) (by simp [own_at, hc1, hc10, hc19, hc28, hc37, hc46, hc56, hc66, hc76]), Nf, rfl⟩)) (by decide) (by decide)
                  · refine own_by (B := s₁.setTop (mkF m 83 #[.val (.int i0)] [])) (fun t k => XS.icmpYes X0.here hx rfl (pc0 := 76) (pc' := 83) rfl (hb hby d1_76) rfl (feq hc76).2 (by decide) (by decide) k) ?_
                    refine own_by (B := s₁.setTop (mkF m 84 #[.val (.int i0)] [(.int i0)])) (fun t k => XS.iloadN X0.here hx rfl (hb hby d1_83) rfl k) ?_
                    refine own_by (B := s₁.setTop (mkF m 86 #[.val (.int i0)] [(.int (9 : Int32)), (.int i0)])) (fun t k => XS.bipush X0.here hx rfl (hb hby d1_84) k) ?_
                    by_cases hc86 : i0 = (9 : Int32)
                    · refine own_by (B := s₁.setTop (mkF m 89 #[.val (.int i0)] [])) (fun t k => XS.icmpNo X0.here hx rfl (hb hby d1_86) rfl (teq hc86).2 k) ?_
                      obtain ⟨T10, X10, e10, st10⟩ := getS2 X0 hx hZ hown (host := "") (Or.inl (hw _ (List.mem_of_getElem? (i := 38) rfl))) Via.refl e0 S_9 (g := (mkF m 89 #[.val (.int i0)] [])) rfl (hb hby d1_89)
                      refine own_by (B := T10.setTop (mkF m 92 #[.val (.int i0)] [(.ref w9)])) st10 ?_
                      exact own_end X10 (v := some (.ref w9)) (fun h => by rw [Bd.returns] at h; cases h) (BodyLoose.notSynchronized Bd) (Q := (Q_rmP Z i0 w0 w1 w2 w3 w4 w5 w6 w7 w8 w9 w10 w11 w12 w13 h0 n0)) (fun fs hr => retOut X10 hx (t := (.object "com/example/processes_as_trees/processesastrees/Formula$Operation")) Bd.returns rfl (Or.inr (Or.inr (Or.inr (Or.inr ⟨rfl, rfl, rfl⟩)))) (hb hby d1_92) hr) (show (Q_rmP Z i0 w0 w1 w2 w3 w4 w5 w6 w7 w8 w9 w10 w11 w12 w13 h0 n0) _ T10.heap _ from (by rw [e10]; exact ⟨congrArg (fun z => some (Value.ref z)) (by simp [own_at, hc1, hc10, hc19, hc28, hc37, hc46, hc56, hc66, hc76, hc86]), Nf, rfl⟩)) (by decide) (by decide)
                    · refine own_by (B := s₁.setTop (mkF m 93 #[.val (.int i0)] [])) (fun t k => XS.icmpYes X0.here hx rfl (pc0 := 86) (pc' := 93) rfl (hb hby d1_86) rfl (feq hc86).2 (by decide) (by decide) k) ?_
                      refine own_by (B := s₁.setTop (mkF m 94 #[.val (.int i0)] [(.int i0)])) (fun t k => XS.iloadN X0.here hx rfl (hb hby d1_93) rfl k) ?_
                      refine own_by (B := s₁.setTop (mkF m 96 #[.val (.int i0)] [(.int (10 : Int32)), (.int i0)])) (fun t k => XS.bipush X0.here hx rfl (hb hby d1_94) k) ?_
                      by_cases hc96 : i0 = (10 : Int32)
                      · refine own_by (B := s₁.setTop (mkF m 99 #[.val (.int i0)] [])) (fun t k => XS.icmpNo X0.here hx rfl (hb hby d1_96) rfl (teq hc96).2 k) ?_
                        obtain ⟨T11, X11, e11, st11⟩ := getS2 X0 hx hZ hown (host := "") (Or.inl (hw _ (List.mem_of_getElem? (i := 34) rfl))) Via.refl e0 S_10 (g := (mkF m 99 #[.val (.int i0)] [])) rfl (hb hby d1_99)
                        refine own_by (B := T11.setTop (mkF m 102 #[.val (.int i0)] [(.ref w10)])) st11 ?_
                        exact own_end X11 (v := some (.ref w10)) (fun h => by rw [Bd.returns] at h; cases h) (BodyLoose.notSynchronized Bd) (Q := (Q_rmP Z i0 w0 w1 w2 w3 w4 w5 w6 w7 w8 w9 w10 w11 w12 w13 h0 n0)) (fun fs hr => retOut X11 hx (t := (.object "com/example/processes_as_trees/processesastrees/Formula$Operation")) Bd.returns rfl (Or.inr (Or.inr (Or.inr (Or.inr ⟨rfl, rfl, rfl⟩)))) (hb hby d1_102) hr) (show (Q_rmP Z i0 w0 w1 w2 w3 w4 w5 w6 w7 w8 w9 w10 w11 w12 w13 h0 n0) _ T11.heap _ from (by rw [e11]; exact ⟨congrArg (fun z => some (Value.ref z)) (by simp [own_at, hc1, hc10, hc19, hc28, hc37, hc46, hc56, hc66, hc76, hc86, hc96]), Nf, rfl⟩)) (by decide) (by decide)
                      · refine own_by (B := s₁.setTop (mkF m 103 #[.val (.int i0)] [])) (fun t k => XS.icmpYes X0.here hx rfl (pc0 := 96) (pc' := 103) rfl (hb hby d1_96) rfl (feq hc96).2 (by decide) (by decide) k) ?_
                        refine own_by (B := s₁.setTop (mkF m 104 #[.val (.int i0)] [(.int i0)])) (fun t k => XS.iloadN X0.here hx rfl (hb hby d1_103) rfl k) ?_
                        refine own_by (B := s₁.setTop (mkF m 106 #[.val (.int i0)] [(.int (11 : Int32)), (.int i0)])) (fun t k => XS.bipush X0.here hx rfl (hb hby d1_104) k) ?_
                        by_cases hc106 : i0 = (11 : Int32)
                        · refine own_by (B := s₁.setTop (mkF m 109 #[.val (.int i0)] [])) (fun t k => XS.icmpNo X0.here hx rfl (hb hby d1_106) rfl (teq hc106).2 k) ?_
                          obtain ⟨T12, X12, e12, st12⟩ := getS2 X0 hx hZ hown (host := "") (Or.inl (hw _ (List.mem_of_getElem? (i := 33) rfl))) Via.refl e0 S_11 (g := (mkF m 109 #[.val (.int i0)] [])) rfl (hb hby d1_109)
                          refine own_by (B := T12.setTop (mkF m 112 #[.val (.int i0)] [(.ref w11)])) st12 ?_
                          exact own_end X12 (v := some (.ref w11)) (fun h => by rw [Bd.returns] at h; cases h) (BodyLoose.notSynchronized Bd) (Q := (Q_rmP Z i0 w0 w1 w2 w3 w4 w5 w6 w7 w8 w9 w10 w11 w12 w13 h0 n0)) (fun fs hr => retOut X12 hx (t := (.object "com/example/processes_as_trees/processesastrees/Formula$Operation")) Bd.returns rfl (Or.inr (Or.inr (Or.inr (Or.inr ⟨rfl, rfl, rfl⟩)))) (hb hby d1_112) hr) (show (Q_rmP Z i0 w0 w1 w2 w3 w4 w5 w6 w7 w8 w9 w10 w11 w12 w13 h0 n0) _ T12.heap _ from (by rw [e12]; exact ⟨congrArg (fun z => some (Value.ref z)) (by simp [own_at, hc1, hc10, hc19, hc28, hc37, hc46, hc56, hc66, hc76, hc86, hc96, hc106]), Nf, rfl⟩)) (by decide) (by decide)
                        · refine own_by (B := s₁.setTop (mkF m 113 #[.val (.int i0)] [])) (fun t k => XS.icmpYes X0.here hx rfl (pc0 := 106) (pc' := 113) rfl (hb hby d1_106) rfl (feq hc106).2 (by decide) (by decide) k) ?_
                          refine own_by (B := s₁.setTop (mkF m 114 #[.val (.int i0)] [(.int i0)])) (fun t k => XS.iloadN X0.here hx rfl (hb hby d1_113) rfl k) ?_
                          refine own_by (B := s₁.setTop (mkF m 116 #[.val (.int i0)] [(.int (12 : Int32)), (.int i0)])) (fun t k => XS.bipush X0.here hx rfl (hb hby d1_114) k) ?_
                          by_cases hc116 : i0 = (12 : Int32)
                          · refine own_by (B := s₁.setTop (mkF m 119 #[.val (.int i0)] [])) (fun t k => XS.icmpNo X0.here hx rfl (hb hby d1_116) rfl (teq hc116).2 k) ?_
                            obtain ⟨T13, X13, e13, st13⟩ := getS2 X0 hx hZ hown (host := "") (Or.inl (hw _ (List.mem_of_getElem? (i := 23) rfl))) Via.refl e0 S_12 (g := (mkF m 119 #[.val (.int i0)] [])) rfl (hb hby d1_119)
                            refine own_by (B := T13.setTop (mkF m 122 #[.val (.int i0)] [(.ref w12)])) st13 ?_
                            exact own_end X13 (v := some (.ref w12)) (fun h => by rw [Bd.returns] at h; cases h) (BodyLoose.notSynchronized Bd) (Q := (Q_rmP Z i0 w0 w1 w2 w3 w4 w5 w6 w7 w8 w9 w10 w11 w12 w13 h0 n0)) (fun fs hr => retOut X13 hx (t := (.object "com/example/processes_as_trees/processesastrees/Formula$Operation")) Bd.returns rfl (Or.inr (Or.inr (Or.inr (Or.inr ⟨rfl, rfl, rfl⟩)))) (hb hby d1_122) hr) (show (Q_rmP Z i0 w0 w1 w2 w3 w4 w5 w6 w7 w8 w9 w10 w11 w12 w13 h0 n0) _ T13.heap _ from (by rw [e13]; exact ⟨congrArg (fun z => some (Value.ref z)) (by simp [own_at, hc1, hc10, hc19, hc28, hc37, hc46, hc56, hc66, hc76, hc86, hc96, hc106, hc116]), Nf, rfl⟩)) (by decide) (by decide)
                          · refine own_by (B := s₁.setTop (mkF m 123 #[.val (.int i0)] [])) (fun t k => XS.icmpYes X0.here hx rfl (pc0 := 116) (pc' := 123) rfl (hb hby d1_116) rfl (feq hc116).2 (by decide) (by decide) k) ?_
                            obtain ⟨T14, X14, e14, st14⟩ := getS2 X0 hx hZ hown (host := "") (Or.inl (hw _ (List.mem_of_getElem? (i := 25) rfl))) Via.refl e0 S_13 (g := (mkF m 123 #[.val (.int i0)] [])) rfl (hb hby d1_123)
                            refine own_by (B := T14.setTop (mkF m 126 #[.val (.int i0)] [(.ref w13)])) st14 ?_
                            exact own_end X14 (v := some (.ref w13)) (fun h => by rw [Bd.returns] at h; cases h) (BodyLoose.notSynchronized Bd) (Q := (Q_rmP Z i0 w0 w1 w2 w3 w4 w5 w6 w7 w8 w9 w10 w11 w12 w13 h0 n0)) (fun fs hr => retOut X14 hx (t := (.object "com/example/processes_as_trees/processesastrees/Formula$Operation")) Bd.returns rfl (Or.inr (Or.inr (Or.inr (Or.inr ⟨rfl, rfl, rfl⟩)))) (hb hby d1_126) hr) (show (Q_rmP Z i0 w0 w1 w2 w3 w4 w5 w6 w7 w8 w9 w10 w11 w12 w13 h0 n0) _ T14.heap _ from (by rw [e14]; exact ⟨congrArg (fun z => some (Value.ref z)) (by simp [own_at, hc1, hc10, hc19, hc28, hc37, hc46, hc56, hc66, hc76, hc86, hc96, hc106, hc116]), Nf, rfl⟩)) (by decide) (by decide)
theorem d2_0 : decode prog_21_method_6_code 0 = .ok (.aload_n 0, 1) := by decide +kernel
theorem d2_1 : decode prog_21_method_6_code 1 = .ok (.getstatic 28, 3) := by decide +kernel
theorem d2_4 : decode prog_21_method_6_code 4 = .ok (.if_acmp .eq 24, 3) := by decide +kernel
theorem d2_7 : decode prog_21_method_6_code 7 = .ok (.aload_n 0, 1) := by decide +kernel
theorem d2_8 : decode prog_21_method_6_code 8 = .ok (.getstatic 31, 3) := by decide +kernel
theorem d2_11 : decode prog_21_method_6_code 11 = .ok (.if_acmp .eq 17, 3) := by decide +kernel
theorem d2_14 : decode prog_21_method_6_code 14 = .ok (.aload_n 0, 1) := by decide +kernel
theorem d2_15 : decode prog_21_method_6_code 15 = .ok (.getstatic 34, 3) := by decide +kernel
theorem d2_18 : decode prog_21_method_6_code 18 = .ok (.if_acmp .eq 10, 3) := by decide +kernel
theorem d2_21 : decode prog_21_method_6_code 21 = .ok (.aload_n 0, 1) := by decide +kernel
theorem d2_22 : decode prog_21_method_6_code 22 = .ok (.getstatic 37, 3) := by decide +kernel
theorem d2_25 : decode prog_21_method_6_code 25 = .ok (.if_acmp .ne 7, 3) := by decide +kernel
theorem d2_28 : decode prog_21_method_6_code 28 = .ok (.iconst 1, 1) := by decide +kernel
theorem d2_29 : decode prog_21_method_6_code 29 = .ok (.goto 4, 3) := by decide +kernel
theorem d2_32 : decode prog_21_method_6_code 32 = .ok (.iconst 0, 1) := by decide +kernel
theorem d2_33 : decode prog_21_method_6_code 33 = .ok (.ireturn, 1) := by decide +kernel
theorem own_pn1 : plainName "com/example/processes_as_trees/processesastrees/Formula$Operation" = true := by first | (simp [plainName, overriddenIn]; done) | decide +kernel
theorem ef_rmC (m : MethodId) (x0 : Addr) : entryFrame m #[(.ref x0)] 1 = mkF m 0 #[.val (.ref x0)] [] := by first | (simp [entryFrame, mkF, argsToLocals, Value.category]; done) | rfl
def Q_rmC (Z : State) (r0 w8 w9 w10 w11 : Addr) (h0 : Heap) (n0 : Nat) (v : Option Value) (h : Heap) (L : List Loc) : Prop := v = some (.int (own_conn r0 w8 w9 w10 w11)) ∧ Fr n0 L ∧ h = h0
set_option maxRecDepth 65536 in
set_option maxHeartbeats 40000000 in
theorem rmC (l : Launch) (Z : State) (a0 : Array Value) (hw : ∀ d ∈ tables_1, d.before a0 Z = true) (ws : List Jvm.Cond) (r0 w8 w9 w10 w11 : Addr) (h0 : Heap) (n0 : Nat) (Z0 : n0 ≤ h0.size) (S_8 : Sta Z h0 "com/example/processes_as_trees/processesastrees/Formula$Operation" "NOT" "Lcom/example/processes_as_trees/processesastrees/Formula$Operation;" (.ref w8)) (S_9 : Sta Z h0 "com/example/processes_as_trees/processesastrees/Formula$Operation" "AND" "Lcom/example/processes_as_trees/processesastrees/Formula$Operation;" (.ref w9)) (S_10 : Sta Z h0 "com/example/processes_as_trees/processesastrees/Formula$Operation" "OR" "Lcom/example/processes_as_trees/processesastrees/Formula$Operation;" (.ref w10)) (S_11 : Sta Z h0 "com/example/processes_as_trees/processesastrees/Formula$Operation" "IMPLIES" "Lcom/example/processes_as_trees/processesastrees/Formula$Operation;" (.ref w11)) :
    MetFree l (⟨"com/example/processes_as_trees/processesastrees/Formula$Operation", "isConnective", "()Z"⟩ : MethodName) (head1 (Jvm.Cond.code (⟨"com/example/processes_as_trees/processesastrees/Formula$Operation", "isConnective", "()Z"⟩ : MethodName) prog_21_method_6_code 1 (some .boolean) :: ws) ({ frames := 0, cells := 0, slots := 0, locals := 0 } : Room)) (fun a U => a = #[(.ref r0)] ∧ Z.Warmed39 U.vm ∧ U.heap = h0) (fun _ _ _ _ _ => True) (fun _ U o U' => ∃ v L, o = .returned v ∧ Q_rmC Z r0 w8 w9 w10 w11 h0 n0 v U'.heap L ∧ FrameEnd U o U' L ({ frames := 0, cells := 0, slots := 0, locals := 0 } : Room).cells ({ frames := 0, cells := 0, slots := 0, locals := 0 } : Room).slots) := by
  refine MetFree.of_bodySF (plainFor_of_name own_pn1) hisR ?_
  intro p e s m args below meth c s₁ Bd hml0 hP hK
  obtain ⟨rfl, hZ, hh⟩ := hP
  have hx := Bd.exec
  have hby := Bd.bytes
  have hml : c.maxLocals = 1 := hml0
  have hown : s.vm.findClass "com/example/processes_as_trees/processesastrees/Formula$Operation" = some m.cls := findClass_of_methodNamed Bd.named
  have hnm := (name_of_methodNamed Bd.named Bd.method).1
  have X0 : Stand p l e ({ frames := 0, cells := 0, slots := 0, locals := 0 } : Room) s m #[(.ref r0)] below meth c s₁ [] 0 0 := Stand.of_body Bd
  have e0 : s₁.heap = h0 := by rw [← hh, Bd.state]; rfl
  show own_Go p e below (s₁.setTop (entryFrame m #[(.ref r0)] 1)) (fun t o => ∃ v L, o = .returned v ∧ Q_rmC Z r0 w8 w9 w10 w11 h0 n0 v t.heap L ∧ FrameEnd s o t L ({ frames := 0, cells := 0, slots := 0, locals := 0 } : Room).cells ({ frames := 0, cells := 0, slots := 0, locals := 0 } : Room).slots)
  refine own_by (B := s₁.setTop (mkF m 0 #[.val (.ref r0)] [])) (fun t k => castTop (ef_rmC m r0) k) ?_
  have Nf := Fr.nil n0
  have Zs := Z0
  refine own_by (B := s₁.setTop (mkF m 1 #[.val (.ref r0)] [(.ref r0)])) (fun t k => XS.aloadN X0.here hx rfl (hb hby d2_0) rfl rfl k) ?_
  obtain ⟨T1, X1, e1, st1⟩ := getS2 X0 hx hZ hown (host := "") (Or.inl (hw _ (List.mem_of_getElem? (i := 13) rfl))) Via.refl e0 S_8 (g := (mkF m 1 #[.val (.ref r0)] [(.ref r0)])) rfl (hb hby d2_1)
  refine own_by (B := T1.setTop (mkF m 4 #[.val (.ref r0)] [(.ref w8), (.ref r0)])) st1 ?_
  by_cases ha4 : r0 = w8
  · refine own_by (B := T1.setTop (mkF m 28 #[.val (.ref r0)] [])) (fun t k => Jvm.RoadKit.acmp (g := (mkF m 4 #[.val (.ref r0)] [(.ref w8), (.ref r0)])) X1 hx rfl rfl rfl (pc0 := 4) (pc' := 28) (same := true) rfl (hb hby d2_4) rfl (decide_eq_true (congrArg Value.ref ha4)) (by decide) (by decide) k) ?_
    refine own_by (B := T1.setTop (mkF m 29 #[.val (.ref r0)] [(.int (1 : Int32))])) (fun t k => XS.iconst X1.here hx rfl (hb hby d2_28) k) ?_
    refine own_by (B := T1.setTop (mkF m 33 #[.val (.ref r0)] [(.int (1 : Int32))])) (fun t k => XS.goto X1.here hx rfl (pc0 := 29) (pc' := 33) rfl (hb hby d2_29) (by decide) (by decide) k) ?_
    exact own_end X1 (v := some (.int (1 : Int32))) (fun h => by rw [Bd.returns] at h; cases h) (BodyLoose.notSynchronized Bd) (Q := (Q_rmC Z r0 w8 w9 w10 w11 h0 n0)) (fun fs hr => retN X1 hx (t := .boolean) Bd.returns (by simp) (hb hby d2_33) hr) (show (Q_rmC Z r0 w8 w9 w10 w11 h0 n0) _ T1.heap _ from (by rw [e1]; exact ⟨congrArg (fun z => some (Value.int z)) (by simp [own_conn, nar, ha4]), Nf, rfl⟩)) (by decide) (by decide)
  · refine own_by (B := T1.setTop (mkF m 7 #[.val (.ref r0)] [])) (fun t k => Jvm.RoadKit.acmp (g := (mkF m 4 #[.val (.ref r0)] [(.ref w8), (.ref r0)])) X1 hx rfl rfl rfl (pc0 := 4) (pc' := 7) (same := false) rfl (hb hby d2_4) rfl (decide_eq_false fun q => ha4 (Value.ref.inj q)) (by decide) (by decide) k) ?_
    refine own_by (B := T1.setTop (mkF m 8 #[.val (.ref r0)] [(.ref r0)])) (fun t k => XS.aloadN X1.here hx rfl (hb hby d2_7) rfl rfl k) ?_
    obtain ⟨T2, X2, e2, st2⟩ := getS2 X1 hx hZ hown (host := "") (Or.inl (hw _ (List.mem_of_getElem? (i := 15) rfl))) Via.refl e1 S_9 (g := (mkF m 8 #[.val (.ref r0)] [(.ref r0)])) rfl (hb hby d2_8)
    refine own_by (B := T2.setTop (mkF m 11 #[.val (.ref r0)] [(.ref w9), (.ref r0)])) st2 ?_
    by_cases ha11 : r0 = w9
    · refine own_by (B := T2.setTop (mkF m 28 #[.val (.ref r0)] [])) (fun t k => Jvm.RoadKit.acmp (g := (mkF m 11 #[.val (.ref r0)] [(.ref w9), (.ref r0)])) X2 hx rfl rfl rfl (pc0 := 11) (pc' := 28) (same := true) rfl (hb hby d2_11) rfl (decide_eq_true (congrArg Value.ref ha11)) (by decide) (by decide) k) ?_
      refine own_by (B := T2.setTop (mkF m 29 #[.val (.ref r0)] [(.int (1 : Int32))])) (fun t k => XS.iconst X2.here hx rfl (hb hby d2_28) k) ?_
      refine own_by (B := T2.setTop (mkF m 33 #[.val (.ref r0)] [(.int (1 : Int32))])) (fun t k => XS.goto X2.here hx rfl (pc0 := 29) (pc' := 33) rfl (hb hby d2_29) (by decide) (by decide) k) ?_
      exact own_end X2 (v := some (.int (1 : Int32))) (fun h => by rw [Bd.returns] at h; cases h) (BodyLoose.notSynchronized Bd) (Q := (Q_rmC Z r0 w8 w9 w10 w11 h0 n0)) (fun fs hr => retN X2 hx (t := .boolean) Bd.returns (by simp) (hb hby d2_33) hr) (show (Q_rmC Z r0 w8 w9 w10 w11 h0 n0) _ T2.heap _ from (by rw [e2]; exact ⟨congrArg (fun z => some (Value.int z)) (by simp [own_conn, nar, ha4, ha11]), Nf, rfl⟩)) (by decide) (by decide)
    · refine own_by (B := T2.setTop (mkF m 14 #[.val (.ref r0)] [])) (fun t k => Jvm.RoadKit.acmp (g := (mkF m 11 #[.val (.ref r0)] [(.ref w9), (.ref r0)])) X2 hx rfl rfl rfl (pc0 := 11) (pc' := 14) (same := false) rfl (hb hby d2_11) rfl (decide_eq_false fun q => ha11 (Value.ref.inj q)) (by decide) (by decide) k) ?_
      refine own_by (B := T2.setTop (mkF m 15 #[.val (.ref r0)] [(.ref r0)])) (fun t k => XS.aloadN X2.here hx rfl (hb hby d2_14) rfl rfl k) ?_
      obtain ⟨T3, X3, e3, st3⟩ := getS2 X2 hx hZ hown (host := "") (Or.inl (hw _ (List.mem_of_getElem? (i := 17) rfl))) Via.refl e2 S_10 (g := (mkF m 15 #[.val (.ref r0)] [(.ref r0)])) rfl (hb hby d2_15)
      refine own_by (B := T3.setTop (mkF m 18 #[.val (.ref r0)] [(.ref w10), (.ref r0)])) st3 ?_
      by_cases ha18 : r0 = w10
      · refine own_by (B := T3.setTop (mkF m 28 #[.val (.ref r0)] [])) (fun t k => Jvm.RoadKit.acmp (g := (mkF m 18 #[.val (.ref r0)] [(.ref w10), (.ref r0)])) X3 hx rfl rfl rfl (pc0 := 18) (pc' := 28) (same := true) rfl (hb hby d2_18) rfl (decide_eq_true (congrArg Value.ref ha18)) (by decide) (by decide) k) ?_
        refine own_by (B := T3.setTop (mkF m 29 #[.val (.ref r0)] [(.int (1 : Int32))])) (fun t k => XS.iconst X3.here hx rfl (hb hby d2_28) k) ?_
        refine own_by (B := T3.setTop (mkF m 33 #[.val (.ref r0)] [(.int (1 : Int32))])) (fun t k => XS.goto X3.here hx rfl (pc0 := 29) (pc' := 33) rfl (hb hby d2_29) (by decide) (by decide) k) ?_
        exact own_end X3 (v := some (.int (1 : Int32))) (fun h => by rw [Bd.returns] at h; cases h) (BodyLoose.notSynchronized Bd) (Q := (Q_rmC Z r0 w8 w9 w10 w11 h0 n0)) (fun fs hr => retN X3 hx (t := .boolean) Bd.returns (by simp) (hb hby d2_33) hr) (show (Q_rmC Z r0 w8 w9 w10 w11 h0 n0) _ T3.heap _ from (by rw [e3]; exact ⟨congrArg (fun z => some (Value.int z)) (by simp [own_conn, nar, ha4, ha11, ha18]), Nf, rfl⟩)) (by decide) (by decide)
      · refine own_by (B := T3.setTop (mkF m 21 #[.val (.ref r0)] [])) (fun t k => Jvm.RoadKit.acmp (g := (mkF m 18 #[.val (.ref r0)] [(.ref w10), (.ref r0)])) X3 hx rfl rfl rfl (pc0 := 18) (pc' := 21) (same := false) rfl (hb hby d2_18) rfl (decide_eq_false fun q => ha18 (Value.ref.inj q)) (by decide) (by decide) k) ?_
        refine own_by (B := T3.setTop (mkF m 22 #[.val (.ref r0)] [(.ref r0)])) (fun t k => XS.aloadN X3.here hx rfl (hb hby d2_21) rfl rfl k) ?_
        obtain ⟨T4, X4, e4, st4⟩ := getS2 X3 hx hZ hown (host := "") (Or.inl (hw _ (List.mem_of_getElem? (i := 19) rfl))) Via.refl e3 S_11 (g := (mkF m 22 #[.val (.ref r0)] [(.ref r0)])) rfl (hb hby d2_22)
        refine own_by (B := T4.setTop (mkF m 25 #[.val (.ref r0)] [(.ref w11), (.ref r0)])) st4 ?_
        by_cases ha25 : r0 = w11
        · refine own_by (B := T4.setTop (mkF m 28 #[.val (.ref r0)] [])) (fun t k => Jvm.RoadKit.acmp (g := (mkF m 25 #[.val (.ref r0)] [(.ref w11), (.ref r0)])) X4 hx rfl rfl rfl (pc0 := 25) (pc' := 28) (same := true) rfl (hb hby d2_25) rfl (decide_eq_true (congrArg Value.ref ha25)) (by decide) (by decide) k) ?_
          refine own_by (B := T4.setTop (mkF m 29 #[.val (.ref r0)] [(.int (1 : Int32))])) (fun t k => XS.iconst X4.here hx rfl (hb hby d2_28) k) ?_
          refine own_by (B := T4.setTop (mkF m 33 #[.val (.ref r0)] [(.int (1 : Int32))])) (fun t k => XS.goto X4.here hx rfl (pc0 := 29) (pc' := 33) rfl (hb hby d2_29) (by decide) (by decide) k) ?_
          exact own_end X4 (v := some (.int (1 : Int32))) (fun h => by rw [Bd.returns] at h; cases h) (BodyLoose.notSynchronized Bd) (Q := (Q_rmC Z r0 w8 w9 w10 w11 h0 n0)) (fun fs hr => retN X4 hx (t := .boolean) Bd.returns (by simp) (hb hby d2_33) hr) (show (Q_rmC Z r0 w8 w9 w10 w11 h0 n0) _ T4.heap _ from (by rw [e4]; exact ⟨congrArg (fun z => some (Value.int z)) (by simp [own_conn, nar, ha4, ha11, ha18, ha25]), Nf, rfl⟩)) (by decide) (by decide)
        · refine own_by (B := T4.setTop (mkF m 32 #[.val (.ref r0)] [])) (fun t k => Jvm.RoadKit.acmp (g := (mkF m 25 #[.val (.ref r0)] [(.ref w11), (.ref r0)])) X4 hx rfl rfl rfl (pc0 := 25) (pc' := 32) (same := false) rfl (hb hby d2_25) rfl (decide_eq_false fun q => ha25 (Value.ref.inj q)) (by decide) (by decide) k) ?_
          refine own_by (B := T4.setTop (mkF m 33 #[.val (.ref r0)] [(.int (0 : Int32))])) (fun t k => XS.iconst X4.here hx rfl (hb hby d2_32) k) ?_
          exact own_end X4 (v := some (.int (0 : Int32))) (fun h => by rw [Bd.returns] at h; cases h) (BodyLoose.notSynchronized Bd) (Q := (Q_rmC Z r0 w8 w9 w10 w11 h0 n0)) (fun fs hr => retN X4 hx (t := .boolean) Bd.returns (by simp) (hb hby d2_33) hr) (show (Q_rmC Z r0 w8 w9 w10 w11 h0 n0) _ T4.heap _ from (by rw [e4]; exact ⟨congrArg (fun z => some (Value.int z)) (by simp [own_conn, nar, ha4, ha11, ha18, ha25]), Nf, rfl⟩)) (by decide) (by decide)
theorem own_pd0 : parseMethodDescriptor "(I)Lcom/example/processes_as_trees/processesastrees/Formula$Operation;" = some ⟨[.int], some (.object "com/example/processes_as_trees/processesastrees/Formula$Operation")⟩ := by decide +kernel
theorem own_pd1 : parseMethodDescriptor "()Z" = some ⟨[], some .boolean⟩ := by decide +kernel
theorem ef_rm0 (m : MethodId) (x0 : Int32) : entryFrame m #[(.int x0)] maxLocals = mkF m 0 #[.val (.int x0), .unset, .unset, .unset] [] := by first | (simp [entryFrame, mkF, argsToLocals, Value.category, maxLocals]; done) | rfl
def Q_rm0 (Z : State) (i0 : Int32) (w0 : Addr) (w1 : Addr) (w2 : Addr) (w3 : Addr) (w4 : Addr) (w5 : Addr) (w6 : Addr) (w7 : Addr) (w8 : Addr) (w9 : Addr) (w10 : Addr) (w11 : Addr) (w12 : Addr) (w13 : Addr) (h0 : Heap) (n0 : Nat) (v : Option Value) (h : Heap) (L : List Loc) : Prop := v = some (.int 1) ∧ Fr n0 L
set_option maxRecDepth 65536 in
set_option maxHeartbeats 40000000 in
theorem rm0 (l : Launch) (Z : State) (a0 : Array Value) (hw : ∀ d ∈ tables_1, d.before a0 Z = true) (ws : List Jvm.Cond) (i0 : Int32) (w0 : Addr) (w1 : Addr) (w2 : Addr) (w3 : Addr) (w4 : Addr) (w5 : Addr) (w6 : Addr) (w7 : Addr) (w8 : Addr) (w9 : Addr) (w10 : Addr) (w11 : Addr) (w12 : Addr) (w13 : Addr) (h0 : Heap) (n0 : Nat) (Z0 : n0 ≤ h0.size) (S_0 : Sta Z h0 "com/example/processes_as_trees/processesastrees/Formula$Operation" "TRUE" "Lcom/example/processes_as_trees/processesastrees/Formula$Operation;" (.ref w0)) (S_1 : Sta Z h0 "com/example/processes_as_trees/processesastrees/Formula$Operation" "FALSE" "Lcom/example/processes_as_trees/processesastrees/Formula$Operation;" (.ref w1)) (S_2 : Sta Z h0 "com/example/processes_as_trees/processesastrees/Formula$Operation" "TERMINATED" "Lcom/example/processes_as_trees/processesastrees/Formula$Operation;" (.ref w2)) (S_3 : Sta Z h0 "com/example/processes_as_trees/processesastrees/Formula$Operation" "HAS" "Lcom/example/processes_as_trees/processesastrees/Formula$Operation;" (.ref w3)) (S_4 : Sta Z h0 "com/example/processes_as_trees/processesastrees/Formula$Operation" "ACTIVE" "Lcom/example/processes_as_trees/processesastrees/Formula$Operation;" (.ref w4)) (S_5 : Sta Z h0 "com/example/processes_as_trees/processesastrees/Formula$Operation" "ENABLED" "Lcom/example/processes_as_trees/processesastrees/Formula$Operation;" (.ref w5)) (S_6 : Sta Z h0 "com/example/processes_as_trees/processesastrees/Formula$Operation" "FIRES" "Lcom/example/processes_as_trees/processesastrees/Formula$Operation;" (.ref w6)) (S_7 : Sta Z h0 "com/example/processes_as_trees/processesastrees/Formula$Operation" "IN" "Lcom/example/processes_as_trees/processesastrees/Formula$Operation;" (.ref w7)) (S_8 : Sta Z h0 "com/example/processes_as_trees/processesastrees/Formula$Operation" "NOT" "Lcom/example/processes_as_trees/processesastrees/Formula$Operation;" (.ref w8)) (S_9 : Sta Z h0 "com/example/processes_as_trees/processesastrees/Formula$Operation" "AND" "Lcom/example/processes_as_trees/processesastrees/Formula$Operation;" (.ref w9)) (S_10 : Sta Z h0 "com/example/processes_as_trees/processesastrees/Formula$Operation" "OR" "Lcom/example/processes_as_trees/processesastrees/Formula$Operation;" (.ref w10)) (S_11 : Sta Z h0 "com/example/processes_as_trees/processesastrees/Formula$Operation" "IMPLIES" "Lcom/example/processes_as_trees/processesastrees/Formula$Operation;" (.ref w11)) (S_12 : Sta Z h0 "com/example/processes_as_trees/processesastrees/Formula$Operation" "EX" "Lcom/example/processes_as_trees/processesastrees/Formula$Operation;" (.ref w12)) (S_13 : Sta Z h0 "com/example/processes_as_trees/processesastrees/Formula$Operation" "EF" "Lcom/example/processes_as_trees/processesastrees/Formula$Operation;" (.ref w13)) (E_0 : Exa Z h0 w0 "com/example/processes_as_trees/processesastrees/Formula$Operation") (E_1 : Exa Z h0 w1 "com/example/processes_as_trees/processesastrees/Formula$Operation") (E_2 : Exa Z h0 w2 "com/example/processes_as_trees/processesastrees/Formula$Operation") (E_3 : Exa Z h0 w3 "com/example/processes_as_trees/processesastrees/Formula$Operation") (E_4 : Exa Z h0 w4 "com/example/processes_as_trees/processesastrees/Formula$Operation") (E_5 : Exa Z h0 w5 "com/example/processes_as_trees/processesastrees/Formula$Operation") (E_6 : Exa Z h0 w6 "com/example/processes_as_trees/processesastrees/Formula$Operation") (E_7 : Exa Z h0 w7 "com/example/processes_as_trees/processesastrees/Formula$Operation") (E_8 : Exa Z h0 w8 "com/example/processes_as_trees/processesastrees/Formula$Operation") (E_9 : Exa Z h0 w9 "com/example/processes_as_trees/processesastrees/Formula$Operation") (E_10 : Exa Z h0 w10 "com/example/processes_as_trees/processesastrees/Formula$Operation") (E_11 : Exa Z h0 w11 "com/example/processes_as_trees/processesastrees/Formula$Operation") (E_12 : Exa Z h0 w12 "com/example/processes_as_trees/processesastrees/Formula$Operation") (E_13 : Exa Z h0 w13 "com/example/processes_as_trees/processesastrees/Formula$Operation") (F_0 : Fld Z h0 w0 "java/lang/Enum" "ordinal" "I" (.int (0 : Int32))) (F_1 : Fld Z h0 w1 "java/lang/Enum" "ordinal" "I" (.int (1 : Int32))) (F_2 : Fld Z h0 w2 "java/lang/Enum" "ordinal" "I" (.int (2 : Int32))) (F_3 : Fld Z h0 w3 "java/lang/Enum" "ordinal" "I" (.int (3 : Int32))) (F_4 : Fld Z h0 w4 "java/lang/Enum" "ordinal" "I" (.int (4 : Int32))) (F_5 : Fld Z h0 w5 "java/lang/Enum" "ordinal" "I" (.int (5 : Int32))) (F_6 : Fld Z h0 w6 "java/lang/Enum" "ordinal" "I" (.int (6 : Int32))) (F_7 : Fld Z h0 w7 "java/lang/Enum" "ordinal" "I" (.int (7 : Int32))) (F_8 : Fld Z h0 w8 "java/lang/Enum" "ordinal" "I" (.int (8 : Int32))) (F_9 : Fld Z h0 w9 "java/lang/Enum" "ordinal" "I" (.int (9 : Int32))) (F_10 : Fld Z h0 w10 "java/lang/Enum" "ordinal" "I" (.int (10 : Int32))) (F_11 : Fld Z h0 w11 "java/lang/Enum" "ordinal" "I" (.int (11 : Int32))) (F_12 : Fld Z h0 w12 "java/lang/Enum" "ordinal" "I" (.int (12 : Int32))) (F_13 : Fld Z h0 w13 "java/lang/Enum" "ordinal" "I" (.int (13 : Int32))) :
    MetFree l x (head1 (Jvm.Cond.code x code maxLocals ret :: ws) room_1) (fun a U => a = #[(.int i0)] ∧ Z.Warmed39 U.vm ∧ U.heap = h0) (fun _ _ _ _ _ => True) (fun _ U o U' => ∃ v L, o = .returned v ∧ Q_rm0 Z i0 w0 w1 w2 w3 w4 w5 w6 w7 w8 w9 w10 w11 w12 w13 h0 n0 v U'.heap L ∧ FrameEnd U o U' L room_1.cells room_1.slots) := by
  refine MetFree.of_bodySF (plainFor_of_name own_pn0) hisR ?_
  intro p e s m args below meth c s₁ Bd hml0 hP hK
  obtain ⟨rfl, hZ, hh⟩ := hP
  have hx := Bd.exec
  have hby := Bd.bytes
  have hml : c.maxLocals = 4 := hml0
  have hown : s.vm.findClass "com/example/processes_as_trees/processesastrees/OperationIsConnectivePinLaw" = some m.cls := findClass_of_methodNamed Bd.named
  have hnm := (name_of_methodNamed Bd.named Bd.method).1
  have X0 : Stand p l e room_1 s m #[(.int i0)] below meth c s₁ [] 0 0 := Stand.of_body Bd
  have e0 : s₁.heap = h0 := by rw [← hh, Bd.state]; rfl
  show own_Go p e below (s₁.setTop (entryFrame m #[(.int i0)] maxLocals)) (fun t o => ∃ v L, o = .returned v ∧ Q_rm0 Z i0 w0 w1 w2 w3 w4 w5 w6 w7 w8 w9 w10 w11 w12 w13 h0 n0 v t.heap L ∧ FrameEnd s o t L room_1.cells room_1.slots)
  refine own_by (B := s₁.setTop (mkF m 0 #[.val (.int i0), .unset, .unset, .unset] [])) (fun t k => castTop (ef_rm0 m i0) k) ?_
  have Nf := Fr.nil n0
  have Zs := Z0
  refine own_by (B := s₁.setTop (mkF m 1 #[.val (.int i0), .unset, .unset, .unset] [(.int i0)])) (fun t k => XS.iloadN X0.here hx rfl (hb hby at_0) rfl k) ?_
  refine own_by (B := s₁.setTop (mkF m 3 #[.val (.int i0), .unset, .unset, .unset] [(.int (2147483647 : Int32)), (.int i0)])) (fun t k => X0.ldcInt hx hown (mvT hZ (hw _ (List.mem_of_getElem? (i := 0) rfl))) (g := (mkF m 1 #[.val (.int i0), .unset, .unset, .unset] [(.int i0)])) rfl (hb hby at_1) _ k) ?_
  refine own_by (B := s₁.setTop (mkF m 4 #[.val (.int i0), .unset, .unset, .unset] [(.int (i0 &&& (2147483647 : Int32)))])) (fun t k => XS.iand X0.here hx rfl (hb hby at_3) rfl k) ?_
  refine own_by (B := s₁.setTop (mkF m 6 #[.val (.int i0), .unset, .unset, .unset] [(.int (14 : Int32)), (.int (i0 &&& (2147483647 : Int32)))])) (fun t k => XS.bipush X0.here hx rfl (hb hby at_4) k) ?_
  refine own_by (B := s₁.setTop (mkF m 7 #[.val (.int i0), .unset, .unset, .unset] [(.int ((i0 &&& (2147483647 : Int32)) % (14 : Int32)))])) (fun t k => iremM (g := (mkF m 6 #[.val (.int i0), .unset, .unset, .unset] [(.int (14 : Int32)), (.int (i0 &&& (2147483647 : Int32)))])) X0 hx rfl (hb hby at_6) rfl (by decide) k) ?_
  refine own_by (B := s₁.setTop (mkF m 8 #[.val (.int i0), .val (.int ((i0 &&& (2147483647 : Int32)) % (14 : Int32))), .unset, .unset] [])) (fun t k => XS.istoreN X0.here hx rfl (hb hby at_7) rfl (l' := #[.val (.int i0), .val (.int ((i0 &&& (2147483647 : Int32)) % (14 : Int32))), .unset, .unset]) rfl k) ?_
  rcases own_14 i0 with hq | hq | hq | hq | hq | hq | hq | hq | hq | hq | hq | hq | hq | hq
  · rw [hq]
    refine own_by (B := s₁.setTop (mkF m 9 #[.val (.int i0), .val (.int (0 : Int32)), .unset, .unset] [(.int (0 : Int32))])) (fun t k => XS.iloadN X0.here hx rfl (hb hby at_8) rfl k) ?_
    obtain ⟨_, _, ⟨T1, L1, k1, n1⟩, -, X1, ⟨Lc1, hQ1, l1, y1, z1⟩, st1⟩ := Jvm.LawKit.callS X0 hx (y := (⟨"com/example/processes_as_trees/processesastrees/OperationIsConnectivePinLaw", "pick", "(I)Lcom/example/processes_as_trees/processesastrees/Formula$Operation;"⟩ : MethodName)) hown (mvT hZ (hw _ (List.mem_of_getElem? (i := 1) rfl))) (mvT hZ (hw _ (List.mem_of_getElem? (i := 2) rfl))) (mvT hZ (hw _ (List.mem_of_getElem? (i := 3) rfl))) (mvT hZ (hw _ (List.mem_of_getElem? (i := 4) rfl))) (by decide) (backOf (W := 0) (rmP l Z a0 hw [] (0 : Int32) w0 w1 w2 w3 w4 w5 w6 w7 w8 w9 w10 w11 w12 w13 h0 n0 Zs S_0 S_1 S_2 S_3 S_4 S_5 S_6 S_7 S_8 S_9 S_10 S_11 S_12 S_13) hZ (hw _ (List.mem_of_getElem? (i := 4) rfl)) (hw _ (List.mem_of_getElem? (i := 3) rfl)) (by decide) (by decide)) (g := (mkF m 9 #[.val (.int i0), .val (.int (0 : Int32)), .unset, .unset] [(.int (0 : Int32))])) rfl (by rw [hml]; rfl) (argsL := [(.int (0 : Int32))]) (rest := []) (lenOf own_pd0 rfl) rfl (by show 2 * 0 + _ ≤ _; exact Nat.le_of_eq rfl) (hb hby at_9) (fun _ _ => ⟨rfl, e0, (by decide : 0 + 0 ≤ _), (by decide : 0 + 0 ≤ _)⟩)
    dsimp only [Pt.U, Pt.locs, Pt.cells, Pt.slots] at X1 l1 y1 z1 st1 hQ1
    subst l1 y1 z1
    obtain ⟨rfl, Nq1, hp1⟩ := hQ1
    have Nf := Fr.app Nf Nq1
    have ec1 : T1.heap = h0 := hp1
    refine own_by (B := T1.setTop (mkF m 12 #[.val (.int i0), .val (.int (0 : Int32)), .unset, .unset] [(.ref w0)])) st1 ?_
    refine own_by (B := T1.setTop (mkF m 13 #[.val (.int i0), .val (.int (0 : Int32)), .val (.ref w0), .unset] [])) (fun t k => XS.astoreN X1.here hx rfl (hb hby at_12) rfl rfl (l' := #[.val (.int i0), .val (.int (0 : Int32)), .val (.ref w0), .unset]) rfl k) ?_
    refine own_by (B := T1.setTop (mkF m 14 #[.val (.int i0), .val (.int (0 : Int32)), .val (.ref w0), .unset] [(.int (0 : Int32))])) (fun t k => XS.iloadN X1.here hx rfl (hb hby at_13) rfl k) ?_
    refine own_by (B := T1.setTop (mkF m 16 #[.val (.int i0), .val (.int (0 : Int32)), .val (.ref w0), .unset] [(.int (8 : Int32)), (.int (0 : Int32))])) (fun t k => XS.bipush X1.here hx rfl (hb hby at_14) k) ?_
    refine own_by (B := T1.setTop (mkF m 29 #[.val (.int i0), .val (.int (0 : Int32)), .val (.ref w0), .unset] [])) (fun t k => XS.icmpYes X1.here hx rfl (pc0 := 16) (pc' := 29) rfl (hb hby at_16) rfl (tlt (by decide)).1 (by decide) (by decide) k) ?_
    refine own_by (B := T1.setTop (mkF m 30 #[.val (.int i0), .val (.int (0 : Int32)), .val (.ref w0), .unset] [(.int (0 : Int32))])) (fun t k => XS.iconst X1.here hx rfl (hb hby at_29) k) ?_
    refine own_by (B := T1.setTop (mkF m 31 #[.val (.int i0), .val (.int (0 : Int32)), .val (.ref w0), .val (.int (0 : Int32))] [])) (fun t k => XS.istoreN X1.here hx rfl (hb hby at_30) rfl (l' := #[.val (.int i0), .val (.int (0 : Int32)), .val (.ref w0), .val (.int (0 : Int32))]) rfl k) ?_
    refine own_by (B := T1.setTop (mkF m 32 #[.val (.int i0), .val (.int (0 : Int32)), .val (.ref w0), .val (.int (0 : Int32))] [(.ref w0)])) (fun t k => XS.aloadN X1.here hx rfl (hb hby at_31) rfl rfl k) ?_
    obtain ⟨cq2, kq2, q2a, q2b, q2c⟩ := isOf hZ ec1 E_0
    obtain ⟨_, _, ⟨T2, L2, k2, n2⟩, -, X2, ⟨Lc2, hQ2, l2, y2, z2⟩, st2⟩ := X1.virtualBack hx (y := (⟨"com/example/processes_as_trees/processesastrees/Formula$Operation", "isConnective", "()Z"⟩ : MethodName)) (z := (⟨"com/example/processes_as_trees/processesastrees/Formula$Operation", "isConnective", "()Z"⟩ : MethodName)) hown (mvT hZ (hw _ (List.mem_of_getElem? (i := 8) rfl))) (mvT hZ (hw _ (List.mem_of_getElem? (i := 9) rfl))) (notFace_of_selects (args := #[]) (mvT hZ (hw _ (List.mem_of_getElem? (i := 11) rfl)))) (mvT hZ (hw _ (List.mem_of_getElem? (i := 11) rfl))) (mvT hZ (hw _ (List.mem_of_getElem? (i := 10) rfl))) (by decide) (backOf (W := 0) (rmC l Z a0 hw [] w0 w8 w9 w10 w11 h0 n0 Zs S_8 S_9 S_10 S_11) hZ (hw _ (List.mem_of_getElem? (i := 12) rfl)) (hw _ (List.mem_of_getElem? (i := 6) rfl)) (by decide) (by decide)) q2a q2c (g := (mkF m 32 #[.val (.int i0), .val (.int (0 : Int32)), .val (.ref w0), .val (.int (0 : Int32))] [(.ref w0)])) rfl (by rw [hml]; rfl) (Steps.refl _) (argsL := []) (rest := []) (lenOf own_pd1 rfl) rfl (by show 2 * 0 + _ ≤ _; exact Nat.le_of_eq rfl) (hb hby at_32) (fun _ _ => ⟨rfl, ec1, (by decide : 0 + 0 ≤ _), (by decide : 0 + 0 ≤ _)⟩)
    dsimp only [Pt.U, Pt.locs, Pt.cells, Pt.slots] at X2 l2 y2 z2 st2 hQ2
    subst l2 y2 z2
    obtain ⟨rfl, Nq2, hp2⟩ := hQ2
    have Nf := Fr.app Nf Nq2
    have ec2 : T2.heap = h0 := hp2
    refine own_by (B := T2.setTop (mkF m 35 #[.val (.int i0), .val (.int (0 : Int32)), .val (.ref w0), .val (.int (0 : Int32))] [(.int (own_conn w0 w8 w9 w10 w11))])) (fun t k => st2.trans k) ?_
    refine own_by (B := T2.setTop (mkF m 36 #[.val (.int i0), .val (.int (0 : Int32)), .val (.ref w0), .val (.int (0 : Int32))] [(.int (0 : Int32)), (.int (own_conn w0 w8 w9 w10 w11))])) (fun t k => XS.iloadN X2.here hx rfl (hb hby at_35) rfl k) ?_
    have hne8 : w0 ≠ w8 := Fld.ne F_0 F_8 (by simp)
    have hne9 : w0 ≠ w9 := Fld.ne F_0 F_9 (by simp)
    have hne10 : w0 ≠ w10 := Fld.ne F_0 F_10 (by simp)
    have hne11 : w0 ≠ w11 := Fld.ne F_0 F_11 (by simp)
    have hv : own_conn w0 w8 w9 w10 w11 = 0 := by simp [own_conn, hne8, hne9, hne10, hne11]
    refine own_by (B := T2.setTop (mkF m 39 #[.val (.int i0), .val (.int (0 : Int32)), .val (.ref w0), .val (.int (0 : Int32))] [])) (fun t k => XS.icmpNo X2.here hx rfl (hb hby at_36) rfl (teq hv).2 k) ?_
    refine own_by (B := T2.setTop (mkF m 40 #[.val (.int i0), .val (.int (0 : Int32)), .val (.ref w0), .val (.int (0 : Int32))] [(.int (1 : Int32))])) (fun t k => XS.iconst X2.here hx rfl (hb hby at_39) k) ?_
    refine own_by (B := T2.setTop (mkF m 44 #[.val (.int i0), .val (.int (0 : Int32)), .val (.ref w0), .val (.int (0 : Int32))] [(.int (1 : Int32))])) (fun t k => XS.goto X2.here hx rfl (pc0 := 40) (pc' := 44) rfl (hb hby at_40) (by decide) (by decide) k) ?_
    exact own_end X2 (v := some (.int (1 : Int32))) (fun h => by rw [Bd.returns] at h; cases h) (BodyLoose.notSynchronized Bd) (Q := (Q_rm0 Z i0 w0 w1 w2 w3 w4 w5 w6 w7 w8 w9 w10 w11 w12 w13 h0 n0)) (fun fs hr => retN X2 hx (t := .boolean) Bd.returns (by simp) (hb hby at_44) hr) (show (Q_rm0 Z i0 w0 w1 w2 w3 w4 w5 w6 w7 w8 w9 w10 w11 w12 w13 h0 n0) _ T2.heap _ from (by rw [ec2]; exact ⟨rfl, Nf⟩)) (by decide) (by decide)
  · rw [hq]
    refine own_by (B := s₁.setTop (mkF m 9 #[.val (.int i0), .val (.int (1 : Int32)), .unset, .unset] [(.int (1 : Int32))])) (fun t k => XS.iloadN X0.here hx rfl (hb hby at_8) rfl k) ?_
    obtain ⟨_, _, ⟨T3, L3, k3, n3⟩, -, X3, ⟨Lc3, hQ3, l3, y3, z3⟩, st3⟩ := Jvm.LawKit.callS X0 hx (y := (⟨"com/example/processes_as_trees/processesastrees/OperationIsConnectivePinLaw", "pick", "(I)Lcom/example/processes_as_trees/processesastrees/Formula$Operation;"⟩ : MethodName)) hown (mvT hZ (hw _ (List.mem_of_getElem? (i := 1) rfl))) (mvT hZ (hw _ (List.mem_of_getElem? (i := 2) rfl))) (mvT hZ (hw _ (List.mem_of_getElem? (i := 3) rfl))) (mvT hZ (hw _ (List.mem_of_getElem? (i := 4) rfl))) (by decide) (backOf (W := 0) (rmP l Z a0 hw [] (1 : Int32) w0 w1 w2 w3 w4 w5 w6 w7 w8 w9 w10 w11 w12 w13 h0 n0 Zs S_0 S_1 S_2 S_3 S_4 S_5 S_6 S_7 S_8 S_9 S_10 S_11 S_12 S_13) hZ (hw _ (List.mem_of_getElem? (i := 4) rfl)) (hw _ (List.mem_of_getElem? (i := 3) rfl)) (by decide) (by decide)) (g := (mkF m 9 #[.val (.int i0), .val (.int (1 : Int32)), .unset, .unset] [(.int (1 : Int32))])) rfl (by rw [hml]; rfl) (argsL := [(.int (1 : Int32))]) (rest := []) (lenOf own_pd0 rfl) rfl (by show 2 * 0 + _ ≤ _; exact Nat.le_of_eq rfl) (hb hby at_9) (fun _ _ => ⟨rfl, e0, (by decide : 0 + 0 ≤ _), (by decide : 0 + 0 ≤ _)⟩)
    dsimp only [Pt.U, Pt.locs, Pt.cells, Pt.slots] at X3 l3 y3 z3 st3 hQ3
    subst l3 y3 z3
    obtain ⟨rfl, Nq3, hp3⟩ := hQ3
    have Nf := Fr.app Nf Nq3
    have ec3 : T3.heap = h0 := hp3
    refine own_by (B := T3.setTop (mkF m 12 #[.val (.int i0), .val (.int (1 : Int32)), .unset, .unset] [(.ref w1)])) st3 ?_
    refine own_by (B := T3.setTop (mkF m 13 #[.val (.int i0), .val (.int (1 : Int32)), .val (.ref w1), .unset] [])) (fun t k => XS.astoreN X3.here hx rfl (hb hby at_12) rfl rfl (l' := #[.val (.int i0), .val (.int (1 : Int32)), .val (.ref w1), .unset]) rfl k) ?_
    refine own_by (B := T3.setTop (mkF m 14 #[.val (.int i0), .val (.int (1 : Int32)), .val (.ref w1), .unset] [(.int (1 : Int32))])) (fun t k => XS.iloadN X3.here hx rfl (hb hby at_13) rfl k) ?_
    refine own_by (B := T3.setTop (mkF m 16 #[.val (.int i0), .val (.int (1 : Int32)), .val (.ref w1), .unset] [(.int (8 : Int32)), (.int (1 : Int32))])) (fun t k => XS.bipush X3.here hx rfl (hb hby at_14) k) ?_
    refine own_by (B := T3.setTop (mkF m 29 #[.val (.int i0), .val (.int (1 : Int32)), .val (.ref w1), .unset] [])) (fun t k => XS.icmpYes X3.here hx rfl (pc0 := 16) (pc' := 29) rfl (hb hby at_16) rfl (tlt (by decide)).1 (by decide) (by decide) k) ?_
    refine own_by (B := T3.setTop (mkF m 30 #[.val (.int i0), .val (.int (1 : Int32)), .val (.ref w1), .unset] [(.int (0 : Int32))])) (fun t k => XS.iconst X3.here hx rfl (hb hby at_29) k) ?_
    refine own_by (B := T3.setTop (mkF m 31 #[.val (.int i0), .val (.int (1 : Int32)), .val (.ref w1), .val (.int (0 : Int32))] [])) (fun t k => XS.istoreN X3.here hx rfl (hb hby at_30) rfl (l' := #[.val (.int i0), .val (.int (1 : Int32)), .val (.ref w1), .val (.int (0 : Int32))]) rfl k) ?_
    refine own_by (B := T3.setTop (mkF m 32 #[.val (.int i0), .val (.int (1 : Int32)), .val (.ref w1), .val (.int (0 : Int32))] [(.ref w1)])) (fun t k => XS.aloadN X3.here hx rfl (hb hby at_31) rfl rfl k) ?_
    obtain ⟨cq4, kq4, q4a, q4b, q4c⟩ := isOf hZ ec3 E_1
    obtain ⟨_, _, ⟨T4, L4, k4, n4⟩, -, X4, ⟨Lc4, hQ4, l4, y4, z4⟩, st4⟩ := X3.virtualBack hx (y := (⟨"com/example/processes_as_trees/processesastrees/Formula$Operation", "isConnective", "()Z"⟩ : MethodName)) (z := (⟨"com/example/processes_as_trees/processesastrees/Formula$Operation", "isConnective", "()Z"⟩ : MethodName)) hown (mvT hZ (hw _ (List.mem_of_getElem? (i := 8) rfl))) (mvT hZ (hw _ (List.mem_of_getElem? (i := 9) rfl))) (notFace_of_selects (args := #[]) (mvT hZ (hw _ (List.mem_of_getElem? (i := 11) rfl)))) (mvT hZ (hw _ (List.mem_of_getElem? (i := 11) rfl))) (mvT hZ (hw _ (List.mem_of_getElem? (i := 10) rfl))) (by decide) (backOf (W := 0) (rmC l Z a0 hw [] w1 w8 w9 w10 w11 h0 n0 Zs S_8 S_9 S_10 S_11) hZ (hw _ (List.mem_of_getElem? (i := 12) rfl)) (hw _ (List.mem_of_getElem? (i := 6) rfl)) (by decide) (by decide)) q4a q4c (g := (mkF m 32 #[.val (.int i0), .val (.int (1 : Int32)), .val (.ref w1), .val (.int (0 : Int32))] [(.ref w1)])) rfl (by rw [hml]; rfl) (Steps.refl _) (argsL := []) (rest := []) (lenOf own_pd1 rfl) rfl (by show 2 * 0 + _ ≤ _; exact Nat.le_of_eq rfl) (hb hby at_32) (fun _ _ => ⟨rfl, ec3, (by decide : 0 + 0 ≤ _), (by decide : 0 + 0 ≤ _)⟩)
    dsimp only [Pt.U, Pt.locs, Pt.cells, Pt.slots] at X4 l4 y4 z4 st4 hQ4
    subst l4 y4 z4
    obtain ⟨rfl, Nq4, hp4⟩ := hQ4
    have Nf := Fr.app Nf Nq4
    have ec4 : T4.heap = h0 := hp4
    refine own_by (B := T4.setTop (mkF m 35 #[.val (.int i0), .val (.int (1 : Int32)), .val (.ref w1), .val (.int (0 : Int32))] [(.int (own_conn w1 w8 w9 w10 w11))])) (fun t k => st4.trans k) ?_
    refine own_by (B := T4.setTop (mkF m 36 #[.val (.int i0), .val (.int (1 : Int32)), .val (.ref w1), .val (.int (0 : Int32))] [(.int (0 : Int32)), (.int (own_conn w1 w8 w9 w10 w11))])) (fun t k => XS.iloadN X4.here hx rfl (hb hby at_35) rfl k) ?_
    have hne8 : w1 ≠ w8 := Fld.ne F_1 F_8 (by simp)
    have hne9 : w1 ≠ w9 := Fld.ne F_1 F_9 (by simp)
    have hne10 : w1 ≠ w10 := Fld.ne F_1 F_10 (by simp)
    have hne11 : w1 ≠ w11 := Fld.ne F_1 F_11 (by simp)
    have hv : own_conn w1 w8 w9 w10 w11 = 0 := by simp [own_conn, hne8, hne9, hne10, hne11]
    refine own_by (B := T4.setTop (mkF m 39 #[.val (.int i0), .val (.int (1 : Int32)), .val (.ref w1), .val (.int (0 : Int32))] [])) (fun t k => XS.icmpNo X4.here hx rfl (hb hby at_36) rfl (teq hv).2 k) ?_
    refine own_by (B := T4.setTop (mkF m 40 #[.val (.int i0), .val (.int (1 : Int32)), .val (.ref w1), .val (.int (0 : Int32))] [(.int (1 : Int32))])) (fun t k => XS.iconst X4.here hx rfl (hb hby at_39) k) ?_
    refine own_by (B := T4.setTop (mkF m 44 #[.val (.int i0), .val (.int (1 : Int32)), .val (.ref w1), .val (.int (0 : Int32))] [(.int (1 : Int32))])) (fun t k => XS.goto X4.here hx rfl (pc0 := 40) (pc' := 44) rfl (hb hby at_40) (by decide) (by decide) k) ?_
    exact own_end X4 (v := some (.int (1 : Int32))) (fun h => by rw [Bd.returns] at h; cases h) (BodyLoose.notSynchronized Bd) (Q := (Q_rm0 Z i0 w0 w1 w2 w3 w4 w5 w6 w7 w8 w9 w10 w11 w12 w13 h0 n0)) (fun fs hr => retN X4 hx (t := .boolean) Bd.returns (by simp) (hb hby at_44) hr) (show (Q_rm0 Z i0 w0 w1 w2 w3 w4 w5 w6 w7 w8 w9 w10 w11 w12 w13 h0 n0) _ T4.heap _ from (by rw [ec4]; exact ⟨rfl, Nf⟩)) (by decide) (by decide)
  · rw [hq]
    refine own_by (B := s₁.setTop (mkF m 9 #[.val (.int i0), .val (.int (2 : Int32)), .unset, .unset] [(.int (2 : Int32))])) (fun t k => XS.iloadN X0.here hx rfl (hb hby at_8) rfl k) ?_
    obtain ⟨_, _, ⟨T5, L5, k5, n5⟩, -, X5, ⟨Lc5, hQ5, l5, y5, z5⟩, st5⟩ := Jvm.LawKit.callS X0 hx (y := (⟨"com/example/processes_as_trees/processesastrees/OperationIsConnectivePinLaw", "pick", "(I)Lcom/example/processes_as_trees/processesastrees/Formula$Operation;"⟩ : MethodName)) hown (mvT hZ (hw _ (List.mem_of_getElem? (i := 1) rfl))) (mvT hZ (hw _ (List.mem_of_getElem? (i := 2) rfl))) (mvT hZ (hw _ (List.mem_of_getElem? (i := 3) rfl))) (mvT hZ (hw _ (List.mem_of_getElem? (i := 4) rfl))) (by decide) (backOf (W := 0) (rmP l Z a0 hw [] (2 : Int32) w0 w1 w2 w3 w4 w5 w6 w7 w8 w9 w10 w11 w12 w13 h0 n0 Zs S_0 S_1 S_2 S_3 S_4 S_5 S_6 S_7 S_8 S_9 S_10 S_11 S_12 S_13) hZ (hw _ (List.mem_of_getElem? (i := 4) rfl)) (hw _ (List.mem_of_getElem? (i := 3) rfl)) (by decide) (by decide)) (g := (mkF m 9 #[.val (.int i0), .val (.int (2 : Int32)), .unset, .unset] [(.int (2 : Int32))])) rfl (by rw [hml]; rfl) (argsL := [(.int (2 : Int32))]) (rest := []) (lenOf own_pd0 rfl) rfl (by show 2 * 0 + _ ≤ _; exact Nat.le_of_eq rfl) (hb hby at_9) (fun _ _ => ⟨rfl, e0, (by decide : 0 + 0 ≤ _), (by decide : 0 + 0 ≤ _)⟩)
    dsimp only [Pt.U, Pt.locs, Pt.cells, Pt.slots] at X5 l5 y5 z5 st5 hQ5
    subst l5 y5 z5
    obtain ⟨rfl, Nq5, hp5⟩ := hQ5
    have Nf := Fr.app Nf Nq5
    have ec5 : T5.heap = h0 := hp5
    refine own_by (B := T5.setTop (mkF m 12 #[.val (.int i0), .val (.int (2 : Int32)), .unset, .unset] [(.ref w2)])) st5 ?_
    refine own_by (B := T5.setTop (mkF m 13 #[.val (.int i0), .val (.int (2 : Int32)), .val (.ref w2), .unset] [])) (fun t k => XS.astoreN X5.here hx rfl (hb hby at_12) rfl rfl (l' := #[.val (.int i0), .val (.int (2 : Int32)), .val (.ref w2), .unset]) rfl k) ?_
    refine own_by (B := T5.setTop (mkF m 14 #[.val (.int i0), .val (.int (2 : Int32)), .val (.ref w2), .unset] [(.int (2 : Int32))])) (fun t k => XS.iloadN X5.here hx rfl (hb hby at_13) rfl k) ?_
    refine own_by (B := T5.setTop (mkF m 16 #[.val (.int i0), .val (.int (2 : Int32)), .val (.ref w2), .unset] [(.int (8 : Int32)), (.int (2 : Int32))])) (fun t k => XS.bipush X5.here hx rfl (hb hby at_14) k) ?_
    refine own_by (B := T5.setTop (mkF m 29 #[.val (.int i0), .val (.int (2 : Int32)), .val (.ref w2), .unset] [])) (fun t k => XS.icmpYes X5.here hx rfl (pc0 := 16) (pc' := 29) rfl (hb hby at_16) rfl (tlt (by decide)).1 (by decide) (by decide) k) ?_
    refine own_by (B := T5.setTop (mkF m 30 #[.val (.int i0), .val (.int (2 : Int32)), .val (.ref w2), .unset] [(.int (0 : Int32))])) (fun t k => XS.iconst X5.here hx rfl (hb hby at_29) k) ?_
    refine own_by (B := T5.setTop (mkF m 31 #[.val (.int i0), .val (.int (2 : Int32)), .val (.ref w2), .val (.int (0 : Int32))] [])) (fun t k => XS.istoreN X5.here hx rfl (hb hby at_30) rfl (l' := #[.val (.int i0), .val (.int (2 : Int32)), .val (.ref w2), .val (.int (0 : Int32))]) rfl k) ?_
    refine own_by (B := T5.setTop (mkF m 32 #[.val (.int i0), .val (.int (2 : Int32)), .val (.ref w2), .val (.int (0 : Int32))] [(.ref w2)])) (fun t k => XS.aloadN X5.here hx rfl (hb hby at_31) rfl rfl k) ?_
    obtain ⟨cq6, kq6, q6a, q6b, q6c⟩ := isOf hZ ec5 E_2
    obtain ⟨_, _, ⟨T6, L6, k6, n6⟩, -, X6, ⟨Lc6, hQ6, l6, y6, z6⟩, st6⟩ := X5.virtualBack hx (y := (⟨"com/example/processes_as_trees/processesastrees/Formula$Operation", "isConnective", "()Z"⟩ : MethodName)) (z := (⟨"com/example/processes_as_trees/processesastrees/Formula$Operation", "isConnective", "()Z"⟩ : MethodName)) hown (mvT hZ (hw _ (List.mem_of_getElem? (i := 8) rfl))) (mvT hZ (hw _ (List.mem_of_getElem? (i := 9) rfl))) (notFace_of_selects (args := #[]) (mvT hZ (hw _ (List.mem_of_getElem? (i := 11) rfl)))) (mvT hZ (hw _ (List.mem_of_getElem? (i := 11) rfl))) (mvT hZ (hw _ (List.mem_of_getElem? (i := 10) rfl))) (by decide) (backOf (W := 0) (rmC l Z a0 hw [] w2 w8 w9 w10 w11 h0 n0 Zs S_8 S_9 S_10 S_11) hZ (hw _ (List.mem_of_getElem? (i := 12) rfl)) (hw _ (List.mem_of_getElem? (i := 6) rfl)) (by decide) (by decide)) q6a q6c (g := (mkF m 32 #[.val (.int i0), .val (.int (2 : Int32)), .val (.ref w2), .val (.int (0 : Int32))] [(.ref w2)])) rfl (by rw [hml]; rfl) (Steps.refl _) (argsL := []) (rest := []) (lenOf own_pd1 rfl) rfl (by show 2 * 0 + _ ≤ _; exact Nat.le_of_eq rfl) (hb hby at_32) (fun _ _ => ⟨rfl, ec5, (by decide : 0 + 0 ≤ _), (by decide : 0 + 0 ≤ _)⟩)
    dsimp only [Pt.U, Pt.locs, Pt.cells, Pt.slots] at X6 l6 y6 z6 st6 hQ6
    subst l6 y6 z6
    obtain ⟨rfl, Nq6, hp6⟩ := hQ6
    have Nf := Fr.app Nf Nq6
    have ec6 : T6.heap = h0 := hp6
    refine own_by (B := T6.setTop (mkF m 35 #[.val (.int i0), .val (.int (2 : Int32)), .val (.ref w2), .val (.int (0 : Int32))] [(.int (own_conn w2 w8 w9 w10 w11))])) (fun t k => st6.trans k) ?_
    refine own_by (B := T6.setTop (mkF m 36 #[.val (.int i0), .val (.int (2 : Int32)), .val (.ref w2), .val (.int (0 : Int32))] [(.int (0 : Int32)), (.int (own_conn w2 w8 w9 w10 w11))])) (fun t k => XS.iloadN X6.here hx rfl (hb hby at_35) rfl k) ?_
    have hne8 : w2 ≠ w8 := Fld.ne F_2 F_8 (by simp)
    have hne9 : w2 ≠ w9 := Fld.ne F_2 F_9 (by simp)
    have hne10 : w2 ≠ w10 := Fld.ne F_2 F_10 (by simp)
    have hne11 : w2 ≠ w11 := Fld.ne F_2 F_11 (by simp)
    have hv : own_conn w2 w8 w9 w10 w11 = 0 := by simp [own_conn, hne8, hne9, hne10, hne11]
    refine own_by (B := T6.setTop (mkF m 39 #[.val (.int i0), .val (.int (2 : Int32)), .val (.ref w2), .val (.int (0 : Int32))] [])) (fun t k => XS.icmpNo X6.here hx rfl (hb hby at_36) rfl (teq hv).2 k) ?_
    refine own_by (B := T6.setTop (mkF m 40 #[.val (.int i0), .val (.int (2 : Int32)), .val (.ref w2), .val (.int (0 : Int32))] [(.int (1 : Int32))])) (fun t k => XS.iconst X6.here hx rfl (hb hby at_39) k) ?_
    refine own_by (B := T6.setTop (mkF m 44 #[.val (.int i0), .val (.int (2 : Int32)), .val (.ref w2), .val (.int (0 : Int32))] [(.int (1 : Int32))])) (fun t k => XS.goto X6.here hx rfl (pc0 := 40) (pc' := 44) rfl (hb hby at_40) (by decide) (by decide) k) ?_
    exact own_end X6 (v := some (.int (1 : Int32))) (fun h => by rw [Bd.returns] at h; cases h) (BodyLoose.notSynchronized Bd) (Q := (Q_rm0 Z i0 w0 w1 w2 w3 w4 w5 w6 w7 w8 w9 w10 w11 w12 w13 h0 n0)) (fun fs hr => retN X6 hx (t := .boolean) Bd.returns (by simp) (hb hby at_44) hr) (show (Q_rm0 Z i0 w0 w1 w2 w3 w4 w5 w6 w7 w8 w9 w10 w11 w12 w13 h0 n0) _ T6.heap _ from (by rw [ec6]; exact ⟨rfl, Nf⟩)) (by decide) (by decide)
  · rw [hq]
    refine own_by (B := s₁.setTop (mkF m 9 #[.val (.int i0), .val (.int (3 : Int32)), .unset, .unset] [(.int (3 : Int32))])) (fun t k => XS.iloadN X0.here hx rfl (hb hby at_8) rfl k) ?_
    obtain ⟨_, _, ⟨T7, L7, k7, n7⟩, -, X7, ⟨Lc7, hQ7, l7, y7, z7⟩, st7⟩ := Jvm.LawKit.callS X0 hx (y := (⟨"com/example/processes_as_trees/processesastrees/OperationIsConnectivePinLaw", "pick", "(I)Lcom/example/processes_as_trees/processesastrees/Formula$Operation;"⟩ : MethodName)) hown (mvT hZ (hw _ (List.mem_of_getElem? (i := 1) rfl))) (mvT hZ (hw _ (List.mem_of_getElem? (i := 2) rfl))) (mvT hZ (hw _ (List.mem_of_getElem? (i := 3) rfl))) (mvT hZ (hw _ (List.mem_of_getElem? (i := 4) rfl))) (by decide) (backOf (W := 0) (rmP l Z a0 hw [] (3 : Int32) w0 w1 w2 w3 w4 w5 w6 w7 w8 w9 w10 w11 w12 w13 h0 n0 Zs S_0 S_1 S_2 S_3 S_4 S_5 S_6 S_7 S_8 S_9 S_10 S_11 S_12 S_13) hZ (hw _ (List.mem_of_getElem? (i := 4) rfl)) (hw _ (List.mem_of_getElem? (i := 3) rfl)) (by decide) (by decide)) (g := (mkF m 9 #[.val (.int i0), .val (.int (3 : Int32)), .unset, .unset] [(.int (3 : Int32))])) rfl (by rw [hml]; rfl) (argsL := [(.int (3 : Int32))]) (rest := []) (lenOf own_pd0 rfl) rfl (by show 2 * 0 + _ ≤ _; exact Nat.le_of_eq rfl) (hb hby at_9) (fun _ _ => ⟨rfl, e0, (by decide : 0 + 0 ≤ _), (by decide : 0 + 0 ≤ _)⟩)
    dsimp only [Pt.U, Pt.locs, Pt.cells, Pt.slots] at X7 l7 y7 z7 st7 hQ7
    subst l7 y7 z7
    obtain ⟨rfl, Nq7, hp7⟩ := hQ7
    have Nf := Fr.app Nf Nq7
    have ec7 : T7.heap = h0 := hp7
    refine own_by (B := T7.setTop (mkF m 12 #[.val (.int i0), .val (.int (3 : Int32)), .unset, .unset] [(.ref w3)])) st7 ?_
    refine own_by (B := T7.setTop (mkF m 13 #[.val (.int i0), .val (.int (3 : Int32)), .val (.ref w3), .unset] [])) (fun t k => XS.astoreN X7.here hx rfl (hb hby at_12) rfl rfl (l' := #[.val (.int i0), .val (.int (3 : Int32)), .val (.ref w3), .unset]) rfl k) ?_
    refine own_by (B := T7.setTop (mkF m 14 #[.val (.int i0), .val (.int (3 : Int32)), .val (.ref w3), .unset] [(.int (3 : Int32))])) (fun t k => XS.iloadN X7.here hx rfl (hb hby at_13) rfl k) ?_
    refine own_by (B := T7.setTop (mkF m 16 #[.val (.int i0), .val (.int (3 : Int32)), .val (.ref w3), .unset] [(.int (8 : Int32)), (.int (3 : Int32))])) (fun t k => XS.bipush X7.here hx rfl (hb hby at_14) k) ?_
    refine own_by (B := T7.setTop (mkF m 29 #[.val (.int i0), .val (.int (3 : Int32)), .val (.ref w3), .unset] [])) (fun t k => XS.icmpYes X7.here hx rfl (pc0 := 16) (pc' := 29) rfl (hb hby at_16) rfl (tlt (by decide)).1 (by decide) (by decide) k) ?_
    refine own_by (B := T7.setTop (mkF m 30 #[.val (.int i0), .val (.int (3 : Int32)), .val (.ref w3), .unset] [(.int (0 : Int32))])) (fun t k => XS.iconst X7.here hx rfl (hb hby at_29) k) ?_
    refine own_by (B := T7.setTop (mkF m 31 #[.val (.int i0), .val (.int (3 : Int32)), .val (.ref w3), .val (.int (0 : Int32))] [])) (fun t k => XS.istoreN X7.here hx rfl (hb hby at_30) rfl (l' := #[.val (.int i0), .val (.int (3 : Int32)), .val (.ref w3), .val (.int (0 : Int32))]) rfl k) ?_
    refine own_by (B := T7.setTop (mkF m 32 #[.val (.int i0), .val (.int (3 : Int32)), .val (.ref w3), .val (.int (0 : Int32))] [(.ref w3)])) (fun t k => XS.aloadN X7.here hx rfl (hb hby at_31) rfl rfl k) ?_
    obtain ⟨cq8, kq8, q8a, q8b, q8c⟩ := isOf hZ ec7 E_3
    obtain ⟨_, _, ⟨T8, L8, k8, n8⟩, -, X8, ⟨Lc8, hQ8, l8, y8, z8⟩, st8⟩ := X7.virtualBack hx (y := (⟨"com/example/processes_as_trees/processesastrees/Formula$Operation", "isConnective", "()Z"⟩ : MethodName)) (z := (⟨"com/example/processes_as_trees/processesastrees/Formula$Operation", "isConnective", "()Z"⟩ : MethodName)) hown (mvT hZ (hw _ (List.mem_of_getElem? (i := 8) rfl))) (mvT hZ (hw _ (List.mem_of_getElem? (i := 9) rfl))) (notFace_of_selects (args := #[]) (mvT hZ (hw _ (List.mem_of_getElem? (i := 11) rfl)))) (mvT hZ (hw _ (List.mem_of_getElem? (i := 11) rfl))) (mvT hZ (hw _ (List.mem_of_getElem? (i := 10) rfl))) (by decide) (backOf (W := 0) (rmC l Z a0 hw [] w3 w8 w9 w10 w11 h0 n0 Zs S_8 S_9 S_10 S_11) hZ (hw _ (List.mem_of_getElem? (i := 12) rfl)) (hw _ (List.mem_of_getElem? (i := 6) rfl)) (by decide) (by decide)) q8a q8c (g := (mkF m 32 #[.val (.int i0), .val (.int (3 : Int32)), .val (.ref w3), .val (.int (0 : Int32))] [(.ref w3)])) rfl (by rw [hml]; rfl) (Steps.refl _) (argsL := []) (rest := []) (lenOf own_pd1 rfl) rfl (by show 2 * 0 + _ ≤ _; exact Nat.le_of_eq rfl) (hb hby at_32) (fun _ _ => ⟨rfl, ec7, (by decide : 0 + 0 ≤ _), (by decide : 0 + 0 ≤ _)⟩)
    dsimp only [Pt.U, Pt.locs, Pt.cells, Pt.slots] at X8 l8 y8 z8 st8 hQ8
    subst l8 y8 z8
    obtain ⟨rfl, Nq8, hp8⟩ := hQ8
    have Nf := Fr.app Nf Nq8
    have ec8 : T8.heap = h0 := hp8
    refine own_by (B := T8.setTop (mkF m 35 #[.val (.int i0), .val (.int (3 : Int32)), .val (.ref w3), .val (.int (0 : Int32))] [(.int (own_conn w3 w8 w9 w10 w11))])) (fun t k => st8.trans k) ?_
    refine own_by (B := T8.setTop (mkF m 36 #[.val (.int i0), .val (.int (3 : Int32)), .val (.ref w3), .val (.int (0 : Int32))] [(.int (0 : Int32)), (.int (own_conn w3 w8 w9 w10 w11))])) (fun t k => XS.iloadN X8.here hx rfl (hb hby at_35) rfl k) ?_
    have hne8 : w3 ≠ w8 := Fld.ne F_3 F_8 (by simp)
    have hne9 : w3 ≠ w9 := Fld.ne F_3 F_9 (by simp)
    have hne10 : w3 ≠ w10 := Fld.ne F_3 F_10 (by simp)
    have hne11 : w3 ≠ w11 := Fld.ne F_3 F_11 (by simp)
    have hv : own_conn w3 w8 w9 w10 w11 = 0 := by simp [own_conn, hne8, hne9, hne10, hne11]
    refine own_by (B := T8.setTop (mkF m 39 #[.val (.int i0), .val (.int (3 : Int32)), .val (.ref w3), .val (.int (0 : Int32))] [])) (fun t k => XS.icmpNo X8.here hx rfl (hb hby at_36) rfl (teq hv).2 k) ?_
    refine own_by (B := T8.setTop (mkF m 40 #[.val (.int i0), .val (.int (3 : Int32)), .val (.ref w3), .val (.int (0 : Int32))] [(.int (1 : Int32))])) (fun t k => XS.iconst X8.here hx rfl (hb hby at_39) k) ?_
    refine own_by (B := T8.setTop (mkF m 44 #[.val (.int i0), .val (.int (3 : Int32)), .val (.ref w3), .val (.int (0 : Int32))] [(.int (1 : Int32))])) (fun t k => XS.goto X8.here hx rfl (pc0 := 40) (pc' := 44) rfl (hb hby at_40) (by decide) (by decide) k) ?_
    exact own_end X8 (v := some (.int (1 : Int32))) (fun h => by rw [Bd.returns] at h; cases h) (BodyLoose.notSynchronized Bd) (Q := (Q_rm0 Z i0 w0 w1 w2 w3 w4 w5 w6 w7 w8 w9 w10 w11 w12 w13 h0 n0)) (fun fs hr => retN X8 hx (t := .boolean) Bd.returns (by simp) (hb hby at_44) hr) (show (Q_rm0 Z i0 w0 w1 w2 w3 w4 w5 w6 w7 w8 w9 w10 w11 w12 w13 h0 n0) _ T8.heap _ from (by rw [ec8]; exact ⟨rfl, Nf⟩)) (by decide) (by decide)
  · rw [hq]
    refine own_by (B := s₁.setTop (mkF m 9 #[.val (.int i0), .val (.int (4 : Int32)), .unset, .unset] [(.int (4 : Int32))])) (fun t k => XS.iloadN X0.here hx rfl (hb hby at_8) rfl k) ?_
    obtain ⟨_, _, ⟨T9, L9, k9, n9⟩, -, X9, ⟨Lc9, hQ9, l9, y9, z9⟩, st9⟩ := Jvm.LawKit.callS X0 hx (y := (⟨"com/example/processes_as_trees/processesastrees/OperationIsConnectivePinLaw", "pick", "(I)Lcom/example/processes_as_trees/processesastrees/Formula$Operation;"⟩ : MethodName)) hown (mvT hZ (hw _ (List.mem_of_getElem? (i := 1) rfl))) (mvT hZ (hw _ (List.mem_of_getElem? (i := 2) rfl))) (mvT hZ (hw _ (List.mem_of_getElem? (i := 3) rfl))) (mvT hZ (hw _ (List.mem_of_getElem? (i := 4) rfl))) (by decide) (backOf (W := 0) (rmP l Z a0 hw [] (4 : Int32) w0 w1 w2 w3 w4 w5 w6 w7 w8 w9 w10 w11 w12 w13 h0 n0 Zs S_0 S_1 S_2 S_3 S_4 S_5 S_6 S_7 S_8 S_9 S_10 S_11 S_12 S_13) hZ (hw _ (List.mem_of_getElem? (i := 4) rfl)) (hw _ (List.mem_of_getElem? (i := 3) rfl)) (by decide) (by decide)) (g := (mkF m 9 #[.val (.int i0), .val (.int (4 : Int32)), .unset, .unset] [(.int (4 : Int32))])) rfl (by rw [hml]; rfl) (argsL := [(.int (4 : Int32))]) (rest := []) (lenOf own_pd0 rfl) rfl (by show 2 * 0 + _ ≤ _; exact Nat.le_of_eq rfl) (hb hby at_9) (fun _ _ => ⟨rfl, e0, (by decide : 0 + 0 ≤ _), (by decide : 0 + 0 ≤ _)⟩)
    dsimp only [Pt.U, Pt.locs, Pt.cells, Pt.slots] at X9 l9 y9 z9 st9 hQ9
    subst l9 y9 z9
    obtain ⟨rfl, Nq9, hp9⟩ := hQ9
    have Nf := Fr.app Nf Nq9
    have ec9 : T9.heap = h0 := hp9
    refine own_by (B := T9.setTop (mkF m 12 #[.val (.int i0), .val (.int (4 : Int32)), .unset, .unset] [(.ref w4)])) st9 ?_
    refine own_by (B := T9.setTop (mkF m 13 #[.val (.int i0), .val (.int (4 : Int32)), .val (.ref w4), .unset] [])) (fun t k => XS.astoreN X9.here hx rfl (hb hby at_12) rfl rfl (l' := #[.val (.int i0), .val (.int (4 : Int32)), .val (.ref w4), .unset]) rfl k) ?_
    refine own_by (B := T9.setTop (mkF m 14 #[.val (.int i0), .val (.int (4 : Int32)), .val (.ref w4), .unset] [(.int (4 : Int32))])) (fun t k => XS.iloadN X9.here hx rfl (hb hby at_13) rfl k) ?_
    refine own_by (B := T9.setTop (mkF m 16 #[.val (.int i0), .val (.int (4 : Int32)), .val (.ref w4), .unset] [(.int (8 : Int32)), (.int (4 : Int32))])) (fun t k => XS.bipush X9.here hx rfl (hb hby at_14) k) ?_
    refine own_by (B := T9.setTop (mkF m 29 #[.val (.int i0), .val (.int (4 : Int32)), .val (.ref w4), .unset] [])) (fun t k => XS.icmpYes X9.here hx rfl (pc0 := 16) (pc' := 29) rfl (hb hby at_16) rfl (tlt (by decide)).1 (by decide) (by decide) k) ?_
    refine own_by (B := T9.setTop (mkF m 30 #[.val (.int i0), .val (.int (4 : Int32)), .val (.ref w4), .unset] [(.int (0 : Int32))])) (fun t k => XS.iconst X9.here hx rfl (hb hby at_29) k) ?_
    refine own_by (B := T9.setTop (mkF m 31 #[.val (.int i0), .val (.int (4 : Int32)), .val (.ref w4), .val (.int (0 : Int32))] [])) (fun t k => XS.istoreN X9.here hx rfl (hb hby at_30) rfl (l' := #[.val (.int i0), .val (.int (4 : Int32)), .val (.ref w4), .val (.int (0 : Int32))]) rfl k) ?_
    refine own_by (B := T9.setTop (mkF m 32 #[.val (.int i0), .val (.int (4 : Int32)), .val (.ref w4), .val (.int (0 : Int32))] [(.ref w4)])) (fun t k => XS.aloadN X9.here hx rfl (hb hby at_31) rfl rfl k) ?_
    obtain ⟨cq10, kq10, q10a, q10b, q10c⟩ := isOf hZ ec9 E_4
    obtain ⟨_, _, ⟨T10, L10, k10, n10⟩, -, X10, ⟨Lc10, hQ10, l10, y10, z10⟩, st10⟩ := X9.virtualBack hx (y := (⟨"com/example/processes_as_trees/processesastrees/Formula$Operation", "isConnective", "()Z"⟩ : MethodName)) (z := (⟨"com/example/processes_as_trees/processesastrees/Formula$Operation", "isConnective", "()Z"⟩ : MethodName)) hown (mvT hZ (hw _ (List.mem_of_getElem? (i := 8) rfl))) (mvT hZ (hw _ (List.mem_of_getElem? (i := 9) rfl))) (notFace_of_selects (args := #[]) (mvT hZ (hw _ (List.mem_of_getElem? (i := 11) rfl)))) (mvT hZ (hw _ (List.mem_of_getElem? (i := 11) rfl))) (mvT hZ (hw _ (List.mem_of_getElem? (i := 10) rfl))) (by decide) (backOf (W := 0) (rmC l Z a0 hw [] w4 w8 w9 w10 w11 h0 n0 Zs S_8 S_9 S_10 S_11) hZ (hw _ (List.mem_of_getElem? (i := 12) rfl)) (hw _ (List.mem_of_getElem? (i := 6) rfl)) (by decide) (by decide)) q10a q10c (g := (mkF m 32 #[.val (.int i0), .val (.int (4 : Int32)), .val (.ref w4), .val (.int (0 : Int32))] [(.ref w4)])) rfl (by rw [hml]; rfl) (Steps.refl _) (argsL := []) (rest := []) (lenOf own_pd1 rfl) rfl (by show 2 * 0 + _ ≤ _; exact Nat.le_of_eq rfl) (hb hby at_32) (fun _ _ => ⟨rfl, ec9, (by decide : 0 + 0 ≤ _), (by decide : 0 + 0 ≤ _)⟩)
    dsimp only [Pt.U, Pt.locs, Pt.cells, Pt.slots] at X10 l10 y10 z10 st10 hQ10
    subst l10 y10 z10
    obtain ⟨rfl, Nq10, hp10⟩ := hQ10
    have Nf := Fr.app Nf Nq10
    have ec10 : T10.heap = h0 := hp10
    refine own_by (B := T10.setTop (mkF m 35 #[.val (.int i0), .val (.int (4 : Int32)), .val (.ref w4), .val (.int (0 : Int32))] [(.int (own_conn w4 w8 w9 w10 w11))])) (fun t k => st10.trans k) ?_
    refine own_by (B := T10.setTop (mkF m 36 #[.val (.int i0), .val (.int (4 : Int32)), .val (.ref w4), .val (.int (0 : Int32))] [(.int (0 : Int32)), (.int (own_conn w4 w8 w9 w10 w11))])) (fun t k => XS.iloadN X10.here hx rfl (hb hby at_35) rfl k) ?_
    have hne8 : w4 ≠ w8 := Fld.ne F_4 F_8 (by simp)
    have hne9 : w4 ≠ w9 := Fld.ne F_4 F_9 (by simp)
    have hne10 : w4 ≠ w10 := Fld.ne F_4 F_10 (by simp)
    have hne11 : w4 ≠ w11 := Fld.ne F_4 F_11 (by simp)
    have hv : own_conn w4 w8 w9 w10 w11 = 0 := by simp [own_conn, hne8, hne9, hne10, hne11]
    refine own_by (B := T10.setTop (mkF m 39 #[.val (.int i0), .val (.int (4 : Int32)), .val (.ref w4), .val (.int (0 : Int32))] [])) (fun t k => XS.icmpNo X10.here hx rfl (hb hby at_36) rfl (teq hv).2 k) ?_
    refine own_by (B := T10.setTop (mkF m 40 #[.val (.int i0), .val (.int (4 : Int32)), .val (.ref w4), .val (.int (0 : Int32))] [(.int (1 : Int32))])) (fun t k => XS.iconst X10.here hx rfl (hb hby at_39) k) ?_
    refine own_by (B := T10.setTop (mkF m 44 #[.val (.int i0), .val (.int (4 : Int32)), .val (.ref w4), .val (.int (0 : Int32))] [(.int (1 : Int32))])) (fun t k => XS.goto X10.here hx rfl (pc0 := 40) (pc' := 44) rfl (hb hby at_40) (by decide) (by decide) k) ?_
    exact own_end X10 (v := some (.int (1 : Int32))) (fun h => by rw [Bd.returns] at h; cases h) (BodyLoose.notSynchronized Bd) (Q := (Q_rm0 Z i0 w0 w1 w2 w3 w4 w5 w6 w7 w8 w9 w10 w11 w12 w13 h0 n0)) (fun fs hr => retN X10 hx (t := .boolean) Bd.returns (by simp) (hb hby at_44) hr) (show (Q_rm0 Z i0 w0 w1 w2 w3 w4 w5 w6 w7 w8 w9 w10 w11 w12 w13 h0 n0) _ T10.heap _ from (by rw [ec10]; exact ⟨rfl, Nf⟩)) (by decide) (by decide)
  · rw [hq]
    refine own_by (B := s₁.setTop (mkF m 9 #[.val (.int i0), .val (.int (5 : Int32)), .unset, .unset] [(.int (5 : Int32))])) (fun t k => XS.iloadN X0.here hx rfl (hb hby at_8) rfl k) ?_
    obtain ⟨_, _, ⟨T11, L11, k11, n11⟩, -, X11, ⟨Lc11, hQ11, l11, y11, z11⟩, st11⟩ := Jvm.LawKit.callS X0 hx (y := (⟨"com/example/processes_as_trees/processesastrees/OperationIsConnectivePinLaw", "pick", "(I)Lcom/example/processes_as_trees/processesastrees/Formula$Operation;"⟩ : MethodName)) hown (mvT hZ (hw _ (List.mem_of_getElem? (i := 1) rfl))) (mvT hZ (hw _ (List.mem_of_getElem? (i := 2) rfl))) (mvT hZ (hw _ (List.mem_of_getElem? (i := 3) rfl))) (mvT hZ (hw _ (List.mem_of_getElem? (i := 4) rfl))) (by decide) (backOf (W := 0) (rmP l Z a0 hw [] (5 : Int32) w0 w1 w2 w3 w4 w5 w6 w7 w8 w9 w10 w11 w12 w13 h0 n0 Zs S_0 S_1 S_2 S_3 S_4 S_5 S_6 S_7 S_8 S_9 S_10 S_11 S_12 S_13) hZ (hw _ (List.mem_of_getElem? (i := 4) rfl)) (hw _ (List.mem_of_getElem? (i := 3) rfl)) (by decide) (by decide)) (g := (mkF m 9 #[.val (.int i0), .val (.int (5 : Int32)), .unset, .unset] [(.int (5 : Int32))])) rfl (by rw [hml]; rfl) (argsL := [(.int (5 : Int32))]) (rest := []) (lenOf own_pd0 rfl) rfl (by show 2 * 0 + _ ≤ _; exact Nat.le_of_eq rfl) (hb hby at_9) (fun _ _ => ⟨rfl, e0, (by decide : 0 + 0 ≤ _), (by decide : 0 + 0 ≤ _)⟩)
    dsimp only [Pt.U, Pt.locs, Pt.cells, Pt.slots] at X11 l11 y11 z11 st11 hQ11
    subst l11 y11 z11
    obtain ⟨rfl, Nq11, hp11⟩ := hQ11
    have Nf := Fr.app Nf Nq11
    have ec11 : T11.heap = h0 := hp11
    refine own_by (B := T11.setTop (mkF m 12 #[.val (.int i0), .val (.int (5 : Int32)), .unset, .unset] [(.ref w5)])) st11 ?_
    refine own_by (B := T11.setTop (mkF m 13 #[.val (.int i0), .val (.int (5 : Int32)), .val (.ref w5), .unset] [])) (fun t k => XS.astoreN X11.here hx rfl (hb hby at_12) rfl rfl (l' := #[.val (.int i0), .val (.int (5 : Int32)), .val (.ref w5), .unset]) rfl k) ?_
    refine own_by (B := T11.setTop (mkF m 14 #[.val (.int i0), .val (.int (5 : Int32)), .val (.ref w5), .unset] [(.int (5 : Int32))])) (fun t k => XS.iloadN X11.here hx rfl (hb hby at_13) rfl k) ?_
    refine own_by (B := T11.setTop (mkF m 16 #[.val (.int i0), .val (.int (5 : Int32)), .val (.ref w5), .unset] [(.int (8 : Int32)), (.int (5 : Int32))])) (fun t k => XS.bipush X11.here hx rfl (hb hby at_14) k) ?_
    refine own_by (B := T11.setTop (mkF m 29 #[.val (.int i0), .val (.int (5 : Int32)), .val (.ref w5), .unset] [])) (fun t k => XS.icmpYes X11.here hx rfl (pc0 := 16) (pc' := 29) rfl (hb hby at_16) rfl (tlt (by decide)).1 (by decide) (by decide) k) ?_
    refine own_by (B := T11.setTop (mkF m 30 #[.val (.int i0), .val (.int (5 : Int32)), .val (.ref w5), .unset] [(.int (0 : Int32))])) (fun t k => XS.iconst X11.here hx rfl (hb hby at_29) k) ?_
    refine own_by (B := T11.setTop (mkF m 31 #[.val (.int i0), .val (.int (5 : Int32)), .val (.ref w5), .val (.int (0 : Int32))] [])) (fun t k => XS.istoreN X11.here hx rfl (hb hby at_30) rfl (l' := #[.val (.int i0), .val (.int (5 : Int32)), .val (.ref w5), .val (.int (0 : Int32))]) rfl k) ?_
    refine own_by (B := T11.setTop (mkF m 32 #[.val (.int i0), .val (.int (5 : Int32)), .val (.ref w5), .val (.int (0 : Int32))] [(.ref w5)])) (fun t k => XS.aloadN X11.here hx rfl (hb hby at_31) rfl rfl k) ?_
    obtain ⟨cq12, kq12, q12a, q12b, q12c⟩ := isOf hZ ec11 E_5
    obtain ⟨_, _, ⟨T12, L12, k12, n12⟩, -, X12, ⟨Lc12, hQ12, l12, y12, z12⟩, st12⟩ := X11.virtualBack hx (y := (⟨"com/example/processes_as_trees/processesastrees/Formula$Operation", "isConnective", "()Z"⟩ : MethodName)) (z := (⟨"com/example/processes_as_trees/processesastrees/Formula$Operation", "isConnective", "()Z"⟩ : MethodName)) hown (mvT hZ (hw _ (List.mem_of_getElem? (i := 8) rfl))) (mvT hZ (hw _ (List.mem_of_getElem? (i := 9) rfl))) (notFace_of_selects (args := #[]) (mvT hZ (hw _ (List.mem_of_getElem? (i := 11) rfl)))) (mvT hZ (hw _ (List.mem_of_getElem? (i := 11) rfl))) (mvT hZ (hw _ (List.mem_of_getElem? (i := 10) rfl))) (by decide) (backOf (W := 0) (rmC l Z a0 hw [] w5 w8 w9 w10 w11 h0 n0 Zs S_8 S_9 S_10 S_11) hZ (hw _ (List.mem_of_getElem? (i := 12) rfl)) (hw _ (List.mem_of_getElem? (i := 6) rfl)) (by decide) (by decide)) q12a q12c (g := (mkF m 32 #[.val (.int i0), .val (.int (5 : Int32)), .val (.ref w5), .val (.int (0 : Int32))] [(.ref w5)])) rfl (by rw [hml]; rfl) (Steps.refl _) (argsL := []) (rest := []) (lenOf own_pd1 rfl) rfl (by show 2 * 0 + _ ≤ _; exact Nat.le_of_eq rfl) (hb hby at_32) (fun _ _ => ⟨rfl, ec11, (by decide : 0 + 0 ≤ _), (by decide : 0 + 0 ≤ _)⟩)
    dsimp only [Pt.U, Pt.locs, Pt.cells, Pt.slots] at X12 l12 y12 z12 st12 hQ12
    subst l12 y12 z12
    obtain ⟨rfl, Nq12, hp12⟩ := hQ12
    have Nf := Fr.app Nf Nq12
    have ec12 : T12.heap = h0 := hp12
    refine own_by (B := T12.setTop (mkF m 35 #[.val (.int i0), .val (.int (5 : Int32)), .val (.ref w5), .val (.int (0 : Int32))] [(.int (own_conn w5 w8 w9 w10 w11))])) (fun t k => st12.trans k) ?_
    refine own_by (B := T12.setTop (mkF m 36 #[.val (.int i0), .val (.int (5 : Int32)), .val (.ref w5), .val (.int (0 : Int32))] [(.int (0 : Int32)), (.int (own_conn w5 w8 w9 w10 w11))])) (fun t k => XS.iloadN X12.here hx rfl (hb hby at_35) rfl k) ?_
    have hne8 : w5 ≠ w8 := Fld.ne F_5 F_8 (by simp)
    have hne9 : w5 ≠ w9 := Fld.ne F_5 F_9 (by simp)
    have hne10 : w5 ≠ w10 := Fld.ne F_5 F_10 (by simp)
    have hne11 : w5 ≠ w11 := Fld.ne F_5 F_11 (by simp)
    have hv : own_conn w5 w8 w9 w10 w11 = 0 := by simp [own_conn, hne8, hne9, hne10, hne11]
    refine own_by (B := T12.setTop (mkF m 39 #[.val (.int i0), .val (.int (5 : Int32)), .val (.ref w5), .val (.int (0 : Int32))] [])) (fun t k => XS.icmpNo X12.here hx rfl (hb hby at_36) rfl (teq hv).2 k) ?_
    refine own_by (B := T12.setTop (mkF m 40 #[.val (.int i0), .val (.int (5 : Int32)), .val (.ref w5), .val (.int (0 : Int32))] [(.int (1 : Int32))])) (fun t k => XS.iconst X12.here hx rfl (hb hby at_39) k) ?_
    refine own_by (B := T12.setTop (mkF m 44 #[.val (.int i0), .val (.int (5 : Int32)), .val (.ref w5), .val (.int (0 : Int32))] [(.int (1 : Int32))])) (fun t k => XS.goto X12.here hx rfl (pc0 := 40) (pc' := 44) rfl (hb hby at_40) (by decide) (by decide) k) ?_
    exact own_end X12 (v := some (.int (1 : Int32))) (fun h => by rw [Bd.returns] at h; cases h) (BodyLoose.notSynchronized Bd) (Q := (Q_rm0 Z i0 w0 w1 w2 w3 w4 w5 w6 w7 w8 w9 w10 w11 w12 w13 h0 n0)) (fun fs hr => retN X12 hx (t := .boolean) Bd.returns (by simp) (hb hby at_44) hr) (show (Q_rm0 Z i0 w0 w1 w2 w3 w4 w5 w6 w7 w8 w9 w10 w11 w12 w13 h0 n0) _ T12.heap _ from (by rw [ec12]; exact ⟨rfl, Nf⟩)) (by decide) (by decide)
  · rw [hq]
    refine own_by (B := s₁.setTop (mkF m 9 #[.val (.int i0), .val (.int (6 : Int32)), .unset, .unset] [(.int (6 : Int32))])) (fun t k => XS.iloadN X0.here hx rfl (hb hby at_8) rfl k) ?_
    obtain ⟨_, _, ⟨T13, L13, k13, n13⟩, -, X13, ⟨Lc13, hQ13, l13, y13, z13⟩, st13⟩ := Jvm.LawKit.callS X0 hx (y := (⟨"com/example/processes_as_trees/processesastrees/OperationIsConnectivePinLaw", "pick", "(I)Lcom/example/processes_as_trees/processesastrees/Formula$Operation;"⟩ : MethodName)) hown (mvT hZ (hw _ (List.mem_of_getElem? (i := 1) rfl))) (mvT hZ (hw _ (List.mem_of_getElem? (i := 2) rfl))) (mvT hZ (hw _ (List.mem_of_getElem? (i := 3) rfl))) (mvT hZ (hw _ (List.mem_of_getElem? (i := 4) rfl))) (by decide) (backOf (W := 0) (rmP l Z a0 hw [] (6 : Int32) w0 w1 w2 w3 w4 w5 w6 w7 w8 w9 w10 w11 w12 w13 h0 n0 Zs S_0 S_1 S_2 S_3 S_4 S_5 S_6 S_7 S_8 S_9 S_10 S_11 S_12 S_13) hZ (hw _ (List.mem_of_getElem? (i := 4) rfl)) (hw _ (List.mem_of_getElem? (i := 3) rfl)) (by decide) (by decide)) (g := (mkF m 9 #[.val (.int i0), .val (.int (6 : Int32)), .unset, .unset] [(.int (6 : Int32))])) rfl (by rw [hml]; rfl) (argsL := [(.int (6 : Int32))]) (rest := []) (lenOf own_pd0 rfl) rfl (by show 2 * 0 + _ ≤ _; exact Nat.le_of_eq rfl) (hb hby at_9) (fun _ _ => ⟨rfl, e0, (by decide : 0 + 0 ≤ _), (by decide : 0 + 0 ≤ _)⟩)
    dsimp only [Pt.U, Pt.locs, Pt.cells, Pt.slots] at X13 l13 y13 z13 st13 hQ13
    subst l13 y13 z13
    obtain ⟨rfl, Nq13, hp13⟩ := hQ13
    have Nf := Fr.app Nf Nq13
    have ec13 : T13.heap = h0 := hp13
    refine own_by (B := T13.setTop (mkF m 12 #[.val (.int i0), .val (.int (6 : Int32)), .unset, .unset] [(.ref w6)])) st13 ?_
    refine own_by (B := T13.setTop (mkF m 13 #[.val (.int i0), .val (.int (6 : Int32)), .val (.ref w6), .unset] [])) (fun t k => XS.astoreN X13.here hx rfl (hb hby at_12) rfl rfl (l' := #[.val (.int i0), .val (.int (6 : Int32)), .val (.ref w6), .unset]) rfl k) ?_
    refine own_by (B := T13.setTop (mkF m 14 #[.val (.int i0), .val (.int (6 : Int32)), .val (.ref w6), .unset] [(.int (6 : Int32))])) (fun t k => XS.iloadN X13.here hx rfl (hb hby at_13) rfl k) ?_
    refine own_by (B := T13.setTop (mkF m 16 #[.val (.int i0), .val (.int (6 : Int32)), .val (.ref w6), .unset] [(.int (8 : Int32)), (.int (6 : Int32))])) (fun t k => XS.bipush X13.here hx rfl (hb hby at_14) k) ?_
    refine own_by (B := T13.setTop (mkF m 29 #[.val (.int i0), .val (.int (6 : Int32)), .val (.ref w6), .unset] [])) (fun t k => XS.icmpYes X13.here hx rfl (pc0 := 16) (pc' := 29) rfl (hb hby at_16) rfl (tlt (by decide)).1 (by decide) (by decide) k) ?_
    refine own_by (B := T13.setTop (mkF m 30 #[.val (.int i0), .val (.int (6 : Int32)), .val (.ref w6), .unset] [(.int (0 : Int32))])) (fun t k => XS.iconst X13.here hx rfl (hb hby at_29) k) ?_
    refine own_by (B := T13.setTop (mkF m 31 #[.val (.int i0), .val (.int (6 : Int32)), .val (.ref w6), .val (.int (0 : Int32))] [])) (fun t k => XS.istoreN X13.here hx rfl (hb hby at_30) rfl (l' := #[.val (.int i0), .val (.int (6 : Int32)), .val (.ref w6), .val (.int (0 : Int32))]) rfl k) ?_
    refine own_by (B := T13.setTop (mkF m 32 #[.val (.int i0), .val (.int (6 : Int32)), .val (.ref w6), .val (.int (0 : Int32))] [(.ref w6)])) (fun t k => XS.aloadN X13.here hx rfl (hb hby at_31) rfl rfl k) ?_
    obtain ⟨cq14, kq14, q14a, q14b, q14c⟩ := isOf hZ ec13 E_6
    obtain ⟨_, _, ⟨T14, L14, k14, n14⟩, -, X14, ⟨Lc14, hQ14, l14, y14, z14⟩, st14⟩ := X13.virtualBack hx (y := (⟨"com/example/processes_as_trees/processesastrees/Formula$Operation", "isConnective", "()Z"⟩ : MethodName)) (z := (⟨"com/example/processes_as_trees/processesastrees/Formula$Operation", "isConnective", "()Z"⟩ : MethodName)) hown (mvT hZ (hw _ (List.mem_of_getElem? (i := 8) rfl))) (mvT hZ (hw _ (List.mem_of_getElem? (i := 9) rfl))) (notFace_of_selects (args := #[]) (mvT hZ (hw _ (List.mem_of_getElem? (i := 11) rfl)))) (mvT hZ (hw _ (List.mem_of_getElem? (i := 11) rfl))) (mvT hZ (hw _ (List.mem_of_getElem? (i := 10) rfl))) (by decide) (backOf (W := 0) (rmC l Z a0 hw [] w6 w8 w9 w10 w11 h0 n0 Zs S_8 S_9 S_10 S_11) hZ (hw _ (List.mem_of_getElem? (i := 12) rfl)) (hw _ (List.mem_of_getElem? (i := 6) rfl)) (by decide) (by decide)) q14a q14c (g := (mkF m 32 #[.val (.int i0), .val (.int (6 : Int32)), .val (.ref w6), .val (.int (0 : Int32))] [(.ref w6)])) rfl (by rw [hml]; rfl) (Steps.refl _) (argsL := []) (rest := []) (lenOf own_pd1 rfl) rfl (by show 2 * 0 + _ ≤ _; exact Nat.le_of_eq rfl) (hb hby at_32) (fun _ _ => ⟨rfl, ec13, (by decide : 0 + 0 ≤ _), (by decide : 0 + 0 ≤ _)⟩)
    dsimp only [Pt.U, Pt.locs, Pt.cells, Pt.slots] at X14 l14 y14 z14 st14 hQ14
    subst l14 y14 z14
    obtain ⟨rfl, Nq14, hp14⟩ := hQ14
    have Nf := Fr.app Nf Nq14
    have ec14 : T14.heap = h0 := hp14
    refine own_by (B := T14.setTop (mkF m 35 #[.val (.int i0), .val (.int (6 : Int32)), .val (.ref w6), .val (.int (0 : Int32))] [(.int (own_conn w6 w8 w9 w10 w11))])) (fun t k => st14.trans k) ?_
    refine own_by (B := T14.setTop (mkF m 36 #[.val (.int i0), .val (.int (6 : Int32)), .val (.ref w6), .val (.int (0 : Int32))] [(.int (0 : Int32)), (.int (own_conn w6 w8 w9 w10 w11))])) (fun t k => XS.iloadN X14.here hx rfl (hb hby at_35) rfl k) ?_
    have hne8 : w6 ≠ w8 := Fld.ne F_6 F_8 (by simp)
    have hne9 : w6 ≠ w9 := Fld.ne F_6 F_9 (by simp)
    have hne10 : w6 ≠ w10 := Fld.ne F_6 F_10 (by simp)
    have hne11 : w6 ≠ w11 := Fld.ne F_6 F_11 (by simp)
    have hv : own_conn w6 w8 w9 w10 w11 = 0 := by simp [own_conn, hne8, hne9, hne10, hne11]
    refine own_by (B := T14.setTop (mkF m 39 #[.val (.int i0), .val (.int (6 : Int32)), .val (.ref w6), .val (.int (0 : Int32))] [])) (fun t k => XS.icmpNo X14.here hx rfl (hb hby at_36) rfl (teq hv).2 k) ?_
    refine own_by (B := T14.setTop (mkF m 40 #[.val (.int i0), .val (.int (6 : Int32)), .val (.ref w6), .val (.int (0 : Int32))] [(.int (1 : Int32))])) (fun t k => XS.iconst X14.here hx rfl (hb hby at_39) k) ?_
    refine own_by (B := T14.setTop (mkF m 44 #[.val (.int i0), .val (.int (6 : Int32)), .val (.ref w6), .val (.int (0 : Int32))] [(.int (1 : Int32))])) (fun t k => XS.goto X14.here hx rfl (pc0 := 40) (pc' := 44) rfl (hb hby at_40) (by decide) (by decide) k) ?_
    exact own_end X14 (v := some (.int (1 : Int32))) (fun h => by rw [Bd.returns] at h; cases h) (BodyLoose.notSynchronized Bd) (Q := (Q_rm0 Z i0 w0 w1 w2 w3 w4 w5 w6 w7 w8 w9 w10 w11 w12 w13 h0 n0)) (fun fs hr => retN X14 hx (t := .boolean) Bd.returns (by simp) (hb hby at_44) hr) (show (Q_rm0 Z i0 w0 w1 w2 w3 w4 w5 w6 w7 w8 w9 w10 w11 w12 w13 h0 n0) _ T14.heap _ from (by rw [ec14]; exact ⟨rfl, Nf⟩)) (by decide) (by decide)
  · rw [hq]
    refine own_by (B := s₁.setTop (mkF m 9 #[.val (.int i0), .val (.int (7 : Int32)), .unset, .unset] [(.int (7 : Int32))])) (fun t k => XS.iloadN X0.here hx rfl (hb hby at_8) rfl k) ?_
    obtain ⟨_, _, ⟨T15, L15, k15, n15⟩, -, X15, ⟨Lc15, hQ15, l15, y15, z15⟩, st15⟩ := Jvm.LawKit.callS X0 hx (y := (⟨"com/example/processes_as_trees/processesastrees/OperationIsConnectivePinLaw", "pick", "(I)Lcom/example/processes_as_trees/processesastrees/Formula$Operation;"⟩ : MethodName)) hown (mvT hZ (hw _ (List.mem_of_getElem? (i := 1) rfl))) (mvT hZ (hw _ (List.mem_of_getElem? (i := 2) rfl))) (mvT hZ (hw _ (List.mem_of_getElem? (i := 3) rfl))) (mvT hZ (hw _ (List.mem_of_getElem? (i := 4) rfl))) (by decide) (backOf (W := 0) (rmP l Z a0 hw [] (7 : Int32) w0 w1 w2 w3 w4 w5 w6 w7 w8 w9 w10 w11 w12 w13 h0 n0 Zs S_0 S_1 S_2 S_3 S_4 S_5 S_6 S_7 S_8 S_9 S_10 S_11 S_12 S_13) hZ (hw _ (List.mem_of_getElem? (i := 4) rfl)) (hw _ (List.mem_of_getElem? (i := 3) rfl)) (by decide) (by decide)) (g := (mkF m 9 #[.val (.int i0), .val (.int (7 : Int32)), .unset, .unset] [(.int (7 : Int32))])) rfl (by rw [hml]; rfl) (argsL := [(.int (7 : Int32))]) (rest := []) (lenOf own_pd0 rfl) rfl (by show 2 * 0 + _ ≤ _; exact Nat.le_of_eq rfl) (hb hby at_9) (fun _ _ => ⟨rfl, e0, (by decide : 0 + 0 ≤ _), (by decide : 0 + 0 ≤ _)⟩)
    dsimp only [Pt.U, Pt.locs, Pt.cells, Pt.slots] at X15 l15 y15 z15 st15 hQ15
    subst l15 y15 z15
    obtain ⟨rfl, Nq15, hp15⟩ := hQ15
    have Nf := Fr.app Nf Nq15
    have ec15 : T15.heap = h0 := hp15
    refine own_by (B := T15.setTop (mkF m 12 #[.val (.int i0), .val (.int (7 : Int32)), .unset, .unset] [(.ref w7)])) st15 ?_
    refine own_by (B := T15.setTop (mkF m 13 #[.val (.int i0), .val (.int (7 : Int32)), .val (.ref w7), .unset] [])) (fun t k => XS.astoreN X15.here hx rfl (hb hby at_12) rfl rfl (l' := #[.val (.int i0), .val (.int (7 : Int32)), .val (.ref w7), .unset]) rfl k) ?_
    refine own_by (B := T15.setTop (mkF m 14 #[.val (.int i0), .val (.int (7 : Int32)), .val (.ref w7), .unset] [(.int (7 : Int32))])) (fun t k => XS.iloadN X15.here hx rfl (hb hby at_13) rfl k) ?_
    refine own_by (B := T15.setTop (mkF m 16 #[.val (.int i0), .val (.int (7 : Int32)), .val (.ref w7), .unset] [(.int (8 : Int32)), (.int (7 : Int32))])) (fun t k => XS.bipush X15.here hx rfl (hb hby at_14) k) ?_
    refine own_by (B := T15.setTop (mkF m 29 #[.val (.int i0), .val (.int (7 : Int32)), .val (.ref w7), .unset] [])) (fun t k => XS.icmpYes X15.here hx rfl (pc0 := 16) (pc' := 29) rfl (hb hby at_16) rfl (tlt (by decide)).1 (by decide) (by decide) k) ?_
    refine own_by (B := T15.setTop (mkF m 30 #[.val (.int i0), .val (.int (7 : Int32)), .val (.ref w7), .unset] [(.int (0 : Int32))])) (fun t k => XS.iconst X15.here hx rfl (hb hby at_29) k) ?_
    refine own_by (B := T15.setTop (mkF m 31 #[.val (.int i0), .val (.int (7 : Int32)), .val (.ref w7), .val (.int (0 : Int32))] [])) (fun t k => XS.istoreN X15.here hx rfl (hb hby at_30) rfl (l' := #[.val (.int i0), .val (.int (7 : Int32)), .val (.ref w7), .val (.int (0 : Int32))]) rfl k) ?_
    refine own_by (B := T15.setTop (mkF m 32 #[.val (.int i0), .val (.int (7 : Int32)), .val (.ref w7), .val (.int (0 : Int32))] [(.ref w7)])) (fun t k => XS.aloadN X15.here hx rfl (hb hby at_31) rfl rfl k) ?_
    obtain ⟨cq16, kq16, q16a, q16b, q16c⟩ := isOf hZ ec15 E_7
    obtain ⟨_, _, ⟨T16, L16, k16, n16⟩, -, X16, ⟨Lc16, hQ16, l16, y16, z16⟩, st16⟩ := X15.virtualBack hx (y := (⟨"com/example/processes_as_trees/processesastrees/Formula$Operation", "isConnective", "()Z"⟩ : MethodName)) (z := (⟨"com/example/processes_as_trees/processesastrees/Formula$Operation", "isConnective", "()Z"⟩ : MethodName)) hown (mvT hZ (hw _ (List.mem_of_getElem? (i := 8) rfl))) (mvT hZ (hw _ (List.mem_of_getElem? (i := 9) rfl))) (notFace_of_selects (args := #[]) (mvT hZ (hw _ (List.mem_of_getElem? (i := 11) rfl)))) (mvT hZ (hw _ (List.mem_of_getElem? (i := 11) rfl))) (mvT hZ (hw _ (List.mem_of_getElem? (i := 10) rfl))) (by decide) (backOf (W := 0) (rmC l Z a0 hw [] w7 w8 w9 w10 w11 h0 n0 Zs S_8 S_9 S_10 S_11) hZ (hw _ (List.mem_of_getElem? (i := 12) rfl)) (hw _ (List.mem_of_getElem? (i := 6) rfl)) (by decide) (by decide)) q16a q16c (g := (mkF m 32 #[.val (.int i0), .val (.int (7 : Int32)), .val (.ref w7), .val (.int (0 : Int32))] [(.ref w7)])) rfl (by rw [hml]; rfl) (Steps.refl _) (argsL := []) (rest := []) (lenOf own_pd1 rfl) rfl (by show 2 * 0 + _ ≤ _; exact Nat.le_of_eq rfl) (hb hby at_32) (fun _ _ => ⟨rfl, ec15, (by decide : 0 + 0 ≤ _), (by decide : 0 + 0 ≤ _)⟩)
    dsimp only [Pt.U, Pt.locs, Pt.cells, Pt.slots] at X16 l16 y16 z16 st16 hQ16
    subst l16 y16 z16
    obtain ⟨rfl, Nq16, hp16⟩ := hQ16
    have Nf := Fr.app Nf Nq16
    have ec16 : T16.heap = h0 := hp16
    refine own_by (B := T16.setTop (mkF m 35 #[.val (.int i0), .val (.int (7 : Int32)), .val (.ref w7), .val (.int (0 : Int32))] [(.int (own_conn w7 w8 w9 w10 w11))])) (fun t k => st16.trans k) ?_
    refine own_by (B := T16.setTop (mkF m 36 #[.val (.int i0), .val (.int (7 : Int32)), .val (.ref w7), .val (.int (0 : Int32))] [(.int (0 : Int32)), (.int (own_conn w7 w8 w9 w10 w11))])) (fun t k => XS.iloadN X16.here hx rfl (hb hby at_35) rfl k) ?_
    have hne8 : w7 ≠ w8 := Fld.ne F_7 F_8 (by simp)
    have hne9 : w7 ≠ w9 := Fld.ne F_7 F_9 (by simp)
    have hne10 : w7 ≠ w10 := Fld.ne F_7 F_10 (by simp)
    have hne11 : w7 ≠ w11 := Fld.ne F_7 F_11 (by simp)
    have hv : own_conn w7 w8 w9 w10 w11 = 0 := by simp [own_conn, hne8, hne9, hne10, hne11]
    refine own_by (B := T16.setTop (mkF m 39 #[.val (.int i0), .val (.int (7 : Int32)), .val (.ref w7), .val (.int (0 : Int32))] [])) (fun t k => XS.icmpNo X16.here hx rfl (hb hby at_36) rfl (teq hv).2 k) ?_
    refine own_by (B := T16.setTop (mkF m 40 #[.val (.int i0), .val (.int (7 : Int32)), .val (.ref w7), .val (.int (0 : Int32))] [(.int (1 : Int32))])) (fun t k => XS.iconst X16.here hx rfl (hb hby at_39) k) ?_
    refine own_by (B := T16.setTop (mkF m 44 #[.val (.int i0), .val (.int (7 : Int32)), .val (.ref w7), .val (.int (0 : Int32))] [(.int (1 : Int32))])) (fun t k => XS.goto X16.here hx rfl (pc0 := 40) (pc' := 44) rfl (hb hby at_40) (by decide) (by decide) k) ?_
    exact own_end X16 (v := some (.int (1 : Int32))) (fun h => by rw [Bd.returns] at h; cases h) (BodyLoose.notSynchronized Bd) (Q := (Q_rm0 Z i0 w0 w1 w2 w3 w4 w5 w6 w7 w8 w9 w10 w11 w12 w13 h0 n0)) (fun fs hr => retN X16 hx (t := .boolean) Bd.returns (by simp) (hb hby at_44) hr) (show (Q_rm0 Z i0 w0 w1 w2 w3 w4 w5 w6 w7 w8 w9 w10 w11 w12 w13 h0 n0) _ T16.heap _ from (by rw [ec16]; exact ⟨rfl, Nf⟩)) (by decide) (by decide)
  · rw [hq]
    refine own_by (B := s₁.setTop (mkF m 9 #[.val (.int i0), .val (.int (8 : Int32)), .unset, .unset] [(.int (8 : Int32))])) (fun t k => XS.iloadN X0.here hx rfl (hb hby at_8) rfl k) ?_
    obtain ⟨_, _, ⟨T17, L17, k17, n17⟩, -, X17, ⟨Lc17, hQ17, l17, y17, z17⟩, st17⟩ := Jvm.LawKit.callS X0 hx (y := (⟨"com/example/processes_as_trees/processesastrees/OperationIsConnectivePinLaw", "pick", "(I)Lcom/example/processes_as_trees/processesastrees/Formula$Operation;"⟩ : MethodName)) hown (mvT hZ (hw _ (List.mem_of_getElem? (i := 1) rfl))) (mvT hZ (hw _ (List.mem_of_getElem? (i := 2) rfl))) (mvT hZ (hw _ (List.mem_of_getElem? (i := 3) rfl))) (mvT hZ (hw _ (List.mem_of_getElem? (i := 4) rfl))) (by decide) (backOf (W := 0) (rmP l Z a0 hw [] (8 : Int32) w0 w1 w2 w3 w4 w5 w6 w7 w8 w9 w10 w11 w12 w13 h0 n0 Zs S_0 S_1 S_2 S_3 S_4 S_5 S_6 S_7 S_8 S_9 S_10 S_11 S_12 S_13) hZ (hw _ (List.mem_of_getElem? (i := 4) rfl)) (hw _ (List.mem_of_getElem? (i := 3) rfl)) (by decide) (by decide)) (g := (mkF m 9 #[.val (.int i0), .val (.int (8 : Int32)), .unset, .unset] [(.int (8 : Int32))])) rfl (by rw [hml]; rfl) (argsL := [(.int (8 : Int32))]) (rest := []) (lenOf own_pd0 rfl) rfl (by show 2 * 0 + _ ≤ _; exact Nat.le_of_eq rfl) (hb hby at_9) (fun _ _ => ⟨rfl, e0, (by decide : 0 + 0 ≤ _), (by decide : 0 + 0 ≤ _)⟩)
    dsimp only [Pt.U, Pt.locs, Pt.cells, Pt.slots] at X17 l17 y17 z17 st17 hQ17
    subst l17 y17 z17
    obtain ⟨rfl, Nq17, hp17⟩ := hQ17
    have Nf := Fr.app Nf Nq17
    have ec17 : T17.heap = h0 := hp17
    refine own_by (B := T17.setTop (mkF m 12 #[.val (.int i0), .val (.int (8 : Int32)), .unset, .unset] [(.ref w8)])) st17 ?_
    refine own_by (B := T17.setTop (mkF m 13 #[.val (.int i0), .val (.int (8 : Int32)), .val (.ref w8), .unset] [])) (fun t k => XS.astoreN X17.here hx rfl (hb hby at_12) rfl rfl (l' := #[.val (.int i0), .val (.int (8 : Int32)), .val (.ref w8), .unset]) rfl k) ?_
    refine own_by (B := T17.setTop (mkF m 14 #[.val (.int i0), .val (.int (8 : Int32)), .val (.ref w8), .unset] [(.int (8 : Int32))])) (fun t k => XS.iloadN X17.here hx rfl (hb hby at_13) rfl k) ?_
    refine own_by (B := T17.setTop (mkF m 16 #[.val (.int i0), .val (.int (8 : Int32)), .val (.ref w8), .unset] [(.int (8 : Int32)), (.int (8 : Int32))])) (fun t k => XS.bipush X17.here hx rfl (hb hby at_14) k) ?_
    refine own_by (B := T17.setTop (mkF m 19 #[.val (.int i0), .val (.int (8 : Int32)), .val (.ref w8), .unset] [])) (fun t k => XS.icmpNo X17.here hx rfl (hb hby at_16) rfl (flt (by decide)).1 k) ?_
    refine own_by (B := T17.setTop (mkF m 20 #[.val (.int i0), .val (.int (8 : Int32)), .val (.ref w8), .unset] [(.int (8 : Int32))])) (fun t k => XS.iloadN X17.here hx rfl (hb hby at_19) rfl k) ?_
    refine own_by (B := T17.setTop (mkF m 22 #[.val (.int i0), .val (.int (8 : Int32)), .val (.ref w8), .unset] [(.int (11 : Int32)), (.int (8 : Int32))])) (fun t k => XS.bipush X17.here hx rfl (hb hby at_20) k) ?_
    refine own_by (B := T17.setTop (mkF m 25 #[.val (.int i0), .val (.int (8 : Int32)), .val (.ref w8), .unset] [])) (fun t k => XS.icmpNo X17.here hx rfl (hb hby at_22) rfl (flt (by decide)).2.2.1 k) ?_
    refine own_by (B := T17.setTop (mkF m 26 #[.val (.int i0), .val (.int (8 : Int32)), .val (.ref w8), .unset] [(.int (1 : Int32))])) (fun t k => XS.iconst X17.here hx rfl (hb hby at_25) k) ?_
    refine own_by (B := T17.setTop (mkF m 30 #[.val (.int i0), .val (.int (8 : Int32)), .val (.ref w8), .unset] [(.int (1 : Int32))])) (fun t k => XS.goto X17.here hx rfl (pc0 := 26) (pc' := 30) rfl (hb hby at_26) (by decide) (by decide) k) ?_
    refine own_by (B := T17.setTop (mkF m 31 #[.val (.int i0), .val (.int (8 : Int32)), .val (.ref w8), .val (.int (1 : Int32))] [])) (fun t k => XS.istoreN X17.here hx rfl (hb hby at_30) rfl (l' := #[.val (.int i0), .val (.int (8 : Int32)), .val (.ref w8), .val (.int (1 : Int32))]) rfl k) ?_
    refine own_by (B := T17.setTop (mkF m 32 #[.val (.int i0), .val (.int (8 : Int32)), .val (.ref w8), .val (.int (1 : Int32))] [(.ref w8)])) (fun t k => XS.aloadN X17.here hx rfl (hb hby at_31) rfl rfl k) ?_
    obtain ⟨cq18, kq18, q18a, q18b, q18c⟩ := isOf hZ ec17 E_8
    obtain ⟨_, _, ⟨T18, L18, k18, n18⟩, -, X18, ⟨Lc18, hQ18, l18, y18, z18⟩, st18⟩ := X17.virtualBack hx (y := (⟨"com/example/processes_as_trees/processesastrees/Formula$Operation", "isConnective", "()Z"⟩ : MethodName)) (z := (⟨"com/example/processes_as_trees/processesastrees/Formula$Operation", "isConnective", "()Z"⟩ : MethodName)) hown (mvT hZ (hw _ (List.mem_of_getElem? (i := 8) rfl))) (mvT hZ (hw _ (List.mem_of_getElem? (i := 9) rfl))) (notFace_of_selects (args := #[]) (mvT hZ (hw _ (List.mem_of_getElem? (i := 11) rfl)))) (mvT hZ (hw _ (List.mem_of_getElem? (i := 11) rfl))) (mvT hZ (hw _ (List.mem_of_getElem? (i := 10) rfl))) (by decide) (backOf (W := 0) (rmC l Z a0 hw [] w8 w8 w9 w10 w11 h0 n0 Zs S_8 S_9 S_10 S_11) hZ (hw _ (List.mem_of_getElem? (i := 12) rfl)) (hw _ (List.mem_of_getElem? (i := 6) rfl)) (by decide) (by decide)) q18a q18c (g := (mkF m 32 #[.val (.int i0), .val (.int (8 : Int32)), .val (.ref w8), .val (.int (1 : Int32))] [(.ref w8)])) rfl (by rw [hml]; rfl) (Steps.refl _) (argsL := []) (rest := []) (lenOf own_pd1 rfl) rfl (by show 2 * 0 + _ ≤ _; exact Nat.le_of_eq rfl) (hb hby at_32) (fun _ _ => ⟨rfl, ec17, (by decide : 0 + 0 ≤ _), (by decide : 0 + 0 ≤ _)⟩)
    dsimp only [Pt.U, Pt.locs, Pt.cells, Pt.slots] at X18 l18 y18 z18 st18 hQ18
    subst l18 y18 z18
    obtain ⟨rfl, Nq18, hp18⟩ := hQ18
    have Nf := Fr.app Nf Nq18
    have ec18 : T18.heap = h0 := hp18
    refine own_by (B := T18.setTop (mkF m 35 #[.val (.int i0), .val (.int (8 : Int32)), .val (.ref w8), .val (.int (1 : Int32))] [(.int (own_conn w8 w8 w9 w10 w11))])) (fun t k => st18.trans k) ?_
    refine own_by (B := T18.setTop (mkF m 36 #[.val (.int i0), .val (.int (8 : Int32)), .val (.ref w8), .val (.int (1 : Int32))] [(.int (1 : Int32)), (.int (own_conn w8 w8 w9 w10 w11))])) (fun t k => XS.iloadN X18.here hx rfl (hb hby at_35) rfl k) ?_
    have hv : own_conn w8 w8 w9 w10 w11 = 1 := by simp [own_conn]
    refine own_by (B := T18.setTop (mkF m 39 #[.val (.int i0), .val (.int (8 : Int32)), .val (.ref w8), .val (.int (1 : Int32))] [])) (fun t k => XS.icmpNo X18.here hx rfl (hb hby at_36) rfl (teq hv).2 k) ?_
    refine own_by (B := T18.setTop (mkF m 40 #[.val (.int i0), .val (.int (8 : Int32)), .val (.ref w8), .val (.int (1 : Int32))] [(.int (1 : Int32))])) (fun t k => XS.iconst X18.here hx rfl (hb hby at_39) k) ?_
    refine own_by (B := T18.setTop (mkF m 44 #[.val (.int i0), .val (.int (8 : Int32)), .val (.ref w8), .val (.int (1 : Int32))] [(.int (1 : Int32))])) (fun t k => XS.goto X18.here hx rfl (pc0 := 40) (pc' := 44) rfl (hb hby at_40) (by decide) (by decide) k) ?_
    exact own_end X18 (v := some (.int (1 : Int32))) (fun h => by rw [Bd.returns] at h; cases h) (BodyLoose.notSynchronized Bd) (Q := (Q_rm0 Z i0 w0 w1 w2 w3 w4 w5 w6 w7 w8 w9 w10 w11 w12 w13 h0 n0)) (fun fs hr => retN X18 hx (t := .boolean) Bd.returns (by simp) (hb hby at_44) hr) (show (Q_rm0 Z i0 w0 w1 w2 w3 w4 w5 w6 w7 w8 w9 w10 w11 w12 w13 h0 n0) _ T18.heap _ from (by rw [ec18]; exact ⟨rfl, Nf⟩)) (by decide) (by decide)
  · rw [hq]
    refine own_by (B := s₁.setTop (mkF m 9 #[.val (.int i0), .val (.int (9 : Int32)), .unset, .unset] [(.int (9 : Int32))])) (fun t k => XS.iloadN X0.here hx rfl (hb hby at_8) rfl k) ?_
    obtain ⟨_, _, ⟨T19, L19, k19, n19⟩, -, X19, ⟨Lc19, hQ19, l19, y19, z19⟩, st19⟩ := Jvm.LawKit.callS X0 hx (y := (⟨"com/example/processes_as_trees/processesastrees/OperationIsConnectivePinLaw", "pick", "(I)Lcom/example/processes_as_trees/processesastrees/Formula$Operation;"⟩ : MethodName)) hown (mvT hZ (hw _ (List.mem_of_getElem? (i := 1) rfl))) (mvT hZ (hw _ (List.mem_of_getElem? (i := 2) rfl))) (mvT hZ (hw _ (List.mem_of_getElem? (i := 3) rfl))) (mvT hZ (hw _ (List.mem_of_getElem? (i := 4) rfl))) (by decide) (backOf (W := 0) (rmP l Z a0 hw [] (9 : Int32) w0 w1 w2 w3 w4 w5 w6 w7 w8 w9 w10 w11 w12 w13 h0 n0 Zs S_0 S_1 S_2 S_3 S_4 S_5 S_6 S_7 S_8 S_9 S_10 S_11 S_12 S_13) hZ (hw _ (List.mem_of_getElem? (i := 4) rfl)) (hw _ (List.mem_of_getElem? (i := 3) rfl)) (by decide) (by decide)) (g := (mkF m 9 #[.val (.int i0), .val (.int (9 : Int32)), .unset, .unset] [(.int (9 : Int32))])) rfl (by rw [hml]; rfl) (argsL := [(.int (9 : Int32))]) (rest := []) (lenOf own_pd0 rfl) rfl (by show 2 * 0 + _ ≤ _; exact Nat.le_of_eq rfl) (hb hby at_9) (fun _ _ => ⟨rfl, e0, (by decide : 0 + 0 ≤ _), (by decide : 0 + 0 ≤ _)⟩)
    dsimp only [Pt.U, Pt.locs, Pt.cells, Pt.slots] at X19 l19 y19 z19 st19 hQ19
    subst l19 y19 z19
    obtain ⟨rfl, Nq19, hp19⟩ := hQ19
    have Nf := Fr.app Nf Nq19
    have ec19 : T19.heap = h0 := hp19
    refine own_by (B := T19.setTop (mkF m 12 #[.val (.int i0), .val (.int (9 : Int32)), .unset, .unset] [(.ref w9)])) st19 ?_
    refine own_by (B := T19.setTop (mkF m 13 #[.val (.int i0), .val (.int (9 : Int32)), .val (.ref w9), .unset] [])) (fun t k => XS.astoreN X19.here hx rfl (hb hby at_12) rfl rfl (l' := #[.val (.int i0), .val (.int (9 : Int32)), .val (.ref w9), .unset]) rfl k) ?_
    refine own_by (B := T19.setTop (mkF m 14 #[.val (.int i0), .val (.int (9 : Int32)), .val (.ref w9), .unset] [(.int (9 : Int32))])) (fun t k => XS.iloadN X19.here hx rfl (hb hby at_13) rfl k) ?_
    refine own_by (B := T19.setTop (mkF m 16 #[.val (.int i0), .val (.int (9 : Int32)), .val (.ref w9), .unset] [(.int (8 : Int32)), (.int (9 : Int32))])) (fun t k => XS.bipush X19.here hx rfl (hb hby at_14) k) ?_
    refine own_by (B := T19.setTop (mkF m 19 #[.val (.int i0), .val (.int (9 : Int32)), .val (.ref w9), .unset] [])) (fun t k => XS.icmpNo X19.here hx rfl (hb hby at_16) rfl (flt (by decide)).1 k) ?_
    refine own_by (B := T19.setTop (mkF m 20 #[.val (.int i0), .val (.int (9 : Int32)), .val (.ref w9), .unset] [(.int (9 : Int32))])) (fun t k => XS.iloadN X19.here hx rfl (hb hby at_19) rfl k) ?_
    refine own_by (B := T19.setTop (mkF m 22 #[.val (.int i0), .val (.int (9 : Int32)), .val (.ref w9), .unset] [(.int (11 : Int32)), (.int (9 : Int32))])) (fun t k => XS.bipush X19.here hx rfl (hb hby at_20) k) ?_
    refine own_by (B := T19.setTop (mkF m 25 #[.val (.int i0), .val (.int (9 : Int32)), .val (.ref w9), .unset] [])) (fun t k => XS.icmpNo X19.here hx rfl (hb hby at_22) rfl (flt (by decide)).2.2.1 k) ?_
    refine own_by (B := T19.setTop (mkF m 26 #[.val (.int i0), .val (.int (9 : Int32)), .val (.ref w9), .unset] [(.int (1 : Int32))])) (fun t k => XS.iconst X19.here hx rfl (hb hby at_25) k) ?_
    refine own_by (B := T19.setTop (mkF m 30 #[.val (.int i0), .val (.int (9 : Int32)), .val (.ref w9), .unset] [(.int (1 : Int32))])) (fun t k => XS.goto X19.here hx rfl (pc0 := 26) (pc' := 30) rfl (hb hby at_26) (by decide) (by decide) k) ?_
    refine own_by (B := T19.setTop (mkF m 31 #[.val (.int i0), .val (.int (9 : Int32)), .val (.ref w9), .val (.int (1 : Int32))] [])) (fun t k => XS.istoreN X19.here hx rfl (hb hby at_30) rfl (l' := #[.val (.int i0), .val (.int (9 : Int32)), .val (.ref w9), .val (.int (1 : Int32))]) rfl k) ?_
    refine own_by (B := T19.setTop (mkF m 32 #[.val (.int i0), .val (.int (9 : Int32)), .val (.ref w9), .val (.int (1 : Int32))] [(.ref w9)])) (fun t k => XS.aloadN X19.here hx rfl (hb hby at_31) rfl rfl k) ?_
    obtain ⟨cq20, kq20, q20a, q20b, q20c⟩ := isOf hZ ec19 E_9
    obtain ⟨_, _, ⟨T20, L20, k20, n20⟩, -, X20, ⟨Lc20, hQ20, l20, y20, z20⟩, st20⟩ := X19.virtualBack hx (y := (⟨"com/example/processes_as_trees/processesastrees/Formula$Operation", "isConnective", "()Z"⟩ : MethodName)) (z := (⟨"com/example/processes_as_trees/processesastrees/Formula$Operation", "isConnective", "()Z"⟩ : MethodName)) hown (mvT hZ (hw _ (List.mem_of_getElem? (i := 8) rfl))) (mvT hZ (hw _ (List.mem_of_getElem? (i := 9) rfl))) (notFace_of_selects (args := #[]) (mvT hZ (hw _ (List.mem_of_getElem? (i := 11) rfl)))) (mvT hZ (hw _ (List.mem_of_getElem? (i := 11) rfl))) (mvT hZ (hw _ (List.mem_of_getElem? (i := 10) rfl))) (by decide) (backOf (W := 0) (rmC l Z a0 hw [] w9 w8 w9 w10 w11 h0 n0 Zs S_8 S_9 S_10 S_11) hZ (hw _ (List.mem_of_getElem? (i := 12) rfl)) (hw _ (List.mem_of_getElem? (i := 6) rfl)) (by decide) (by decide)) q20a q20c (g := (mkF m 32 #[.val (.int i0), .val (.int (9 : Int32)), .val (.ref w9), .val (.int (1 : Int32))] [(.ref w9)])) rfl (by rw [hml]; rfl) (Steps.refl _) (argsL := []) (rest := []) (lenOf own_pd1 rfl) rfl (by show 2 * 0 + _ ≤ _; exact Nat.le_of_eq rfl) (hb hby at_32) (fun _ _ => ⟨rfl, ec19, (by decide : 0 + 0 ≤ _), (by decide : 0 + 0 ≤ _)⟩)
    dsimp only [Pt.U, Pt.locs, Pt.cells, Pt.slots] at X20 l20 y20 z20 st20 hQ20
    subst l20 y20 z20
    obtain ⟨rfl, Nq20, hp20⟩ := hQ20
    have Nf := Fr.app Nf Nq20
    have ec20 : T20.heap = h0 := hp20
    refine own_by (B := T20.setTop (mkF m 35 #[.val (.int i0), .val (.int (9 : Int32)), .val (.ref w9), .val (.int (1 : Int32))] [(.int (own_conn w9 w8 w9 w10 w11))])) (fun t k => st20.trans k) ?_
    refine own_by (B := T20.setTop (mkF m 36 #[.val (.int i0), .val (.int (9 : Int32)), .val (.ref w9), .val (.int (1 : Int32))] [(.int (1 : Int32)), (.int (own_conn w9 w8 w9 w10 w11))])) (fun t k => XS.iloadN X20.here hx rfl (hb hby at_35) rfl k) ?_
    have hv : own_conn w9 w8 w9 w10 w11 = 1 := by simp [own_conn]
    refine own_by (B := T20.setTop (mkF m 39 #[.val (.int i0), .val (.int (9 : Int32)), .val (.ref w9), .val (.int (1 : Int32))] [])) (fun t k => XS.icmpNo X20.here hx rfl (hb hby at_36) rfl (teq hv).2 k) ?_
    refine own_by (B := T20.setTop (mkF m 40 #[.val (.int i0), .val (.int (9 : Int32)), .val (.ref w9), .val (.int (1 : Int32))] [(.int (1 : Int32))])) (fun t k => XS.iconst X20.here hx rfl (hb hby at_39) k) ?_
    refine own_by (B := T20.setTop (mkF m 44 #[.val (.int i0), .val (.int (9 : Int32)), .val (.ref w9), .val (.int (1 : Int32))] [(.int (1 : Int32))])) (fun t k => XS.goto X20.here hx rfl (pc0 := 40) (pc' := 44) rfl (hb hby at_40) (by decide) (by decide) k) ?_
    exact own_end X20 (v := some (.int (1 : Int32))) (fun h => by rw [Bd.returns] at h; cases h) (BodyLoose.notSynchronized Bd) (Q := (Q_rm0 Z i0 w0 w1 w2 w3 w4 w5 w6 w7 w8 w9 w10 w11 w12 w13 h0 n0)) (fun fs hr => retN X20 hx (t := .boolean) Bd.returns (by simp) (hb hby at_44) hr) (show (Q_rm0 Z i0 w0 w1 w2 w3 w4 w5 w6 w7 w8 w9 w10 w11 w12 w13 h0 n0) _ T20.heap _ from (by rw [ec20]; exact ⟨rfl, Nf⟩)) (by decide) (by decide)
  · rw [hq]
    refine own_by (B := s₁.setTop (mkF m 9 #[.val (.int i0), .val (.int (10 : Int32)), .unset, .unset] [(.int (10 : Int32))])) (fun t k => XS.iloadN X0.here hx rfl (hb hby at_8) rfl k) ?_
    obtain ⟨_, _, ⟨T21, L21, k21, n21⟩, -, X21, ⟨Lc21, hQ21, l21, y21, z21⟩, st21⟩ := Jvm.LawKit.callS X0 hx (y := (⟨"com/example/processes_as_trees/processesastrees/OperationIsConnectivePinLaw", "pick", "(I)Lcom/example/processes_as_trees/processesastrees/Formula$Operation;"⟩ : MethodName)) hown (mvT hZ (hw _ (List.mem_of_getElem? (i := 1) rfl))) (mvT hZ (hw _ (List.mem_of_getElem? (i := 2) rfl))) (mvT hZ (hw _ (List.mem_of_getElem? (i := 3) rfl))) (mvT hZ (hw _ (List.mem_of_getElem? (i := 4) rfl))) (by decide) (backOf (W := 0) (rmP l Z a0 hw [] (10 : Int32) w0 w1 w2 w3 w4 w5 w6 w7 w8 w9 w10 w11 w12 w13 h0 n0 Zs S_0 S_1 S_2 S_3 S_4 S_5 S_6 S_7 S_8 S_9 S_10 S_11 S_12 S_13) hZ (hw _ (List.mem_of_getElem? (i := 4) rfl)) (hw _ (List.mem_of_getElem? (i := 3) rfl)) (by decide) (by decide)) (g := (mkF m 9 #[.val (.int i0), .val (.int (10 : Int32)), .unset, .unset] [(.int (10 : Int32))])) rfl (by rw [hml]; rfl) (argsL := [(.int (10 : Int32))]) (rest := []) (lenOf own_pd0 rfl) rfl (by show 2 * 0 + _ ≤ _; exact Nat.le_of_eq rfl) (hb hby at_9) (fun _ _ => ⟨rfl, e0, (by decide : 0 + 0 ≤ _), (by decide : 0 + 0 ≤ _)⟩)
    dsimp only [Pt.U, Pt.locs, Pt.cells, Pt.slots] at X21 l21 y21 z21 st21 hQ21
    subst l21 y21 z21
    obtain ⟨rfl, Nq21, hp21⟩ := hQ21
    have Nf := Fr.app Nf Nq21
    have ec21 : T21.heap = h0 := hp21
    refine own_by (B := T21.setTop (mkF m 12 #[.val (.int i0), .val (.int (10 : Int32)), .unset, .unset] [(.ref w10)])) st21 ?_
    refine own_by (B := T21.setTop (mkF m 13 #[.val (.int i0), .val (.int (10 : Int32)), .val (.ref w10), .unset] [])) (fun t k => XS.astoreN X21.here hx rfl (hb hby at_12) rfl rfl (l' := #[.val (.int i0), .val (.int (10 : Int32)), .val (.ref w10), .unset]) rfl k) ?_
    refine own_by (B := T21.setTop (mkF m 14 #[.val (.int i0), .val (.int (10 : Int32)), .val (.ref w10), .unset] [(.int (10 : Int32))])) (fun t k => XS.iloadN X21.here hx rfl (hb hby at_13) rfl k) ?_
    refine own_by (B := T21.setTop (mkF m 16 #[.val (.int i0), .val (.int (10 : Int32)), .val (.ref w10), .unset] [(.int (8 : Int32)), (.int (10 : Int32))])) (fun t k => XS.bipush X21.here hx rfl (hb hby at_14) k) ?_
    refine own_by (B := T21.setTop (mkF m 19 #[.val (.int i0), .val (.int (10 : Int32)), .val (.ref w10), .unset] [])) (fun t k => XS.icmpNo X21.here hx rfl (hb hby at_16) rfl (flt (by decide)).1 k) ?_
    refine own_by (B := T21.setTop (mkF m 20 #[.val (.int i0), .val (.int (10 : Int32)), .val (.ref w10), .unset] [(.int (10 : Int32))])) (fun t k => XS.iloadN X21.here hx rfl (hb hby at_19) rfl k) ?_
    refine own_by (B := T21.setTop (mkF m 22 #[.val (.int i0), .val (.int (10 : Int32)), .val (.ref w10), .unset] [(.int (11 : Int32)), (.int (10 : Int32))])) (fun t k => XS.bipush X21.here hx rfl (hb hby at_20) k) ?_
    refine own_by (B := T21.setTop (mkF m 25 #[.val (.int i0), .val (.int (10 : Int32)), .val (.ref w10), .unset] [])) (fun t k => XS.icmpNo X21.here hx rfl (hb hby at_22) rfl (flt (by decide)).2.2.1 k) ?_
    refine own_by (B := T21.setTop (mkF m 26 #[.val (.int i0), .val (.int (10 : Int32)), .val (.ref w10), .unset] [(.int (1 : Int32))])) (fun t k => XS.iconst X21.here hx rfl (hb hby at_25) k) ?_
    refine own_by (B := T21.setTop (mkF m 30 #[.val (.int i0), .val (.int (10 : Int32)), .val (.ref w10), .unset] [(.int (1 : Int32))])) (fun t k => XS.goto X21.here hx rfl (pc0 := 26) (pc' := 30) rfl (hb hby at_26) (by decide) (by decide) k) ?_
    refine own_by (B := T21.setTop (mkF m 31 #[.val (.int i0), .val (.int (10 : Int32)), .val (.ref w10), .val (.int (1 : Int32))] [])) (fun t k => XS.istoreN X21.here hx rfl (hb hby at_30) rfl (l' := #[.val (.int i0), .val (.int (10 : Int32)), .val (.ref w10), .val (.int (1 : Int32))]) rfl k) ?_
    refine own_by (B := T21.setTop (mkF m 32 #[.val (.int i0), .val (.int (10 : Int32)), .val (.ref w10), .val (.int (1 : Int32))] [(.ref w10)])) (fun t k => XS.aloadN X21.here hx rfl (hb hby at_31) rfl rfl k) ?_
    obtain ⟨cq22, kq22, q22a, q22b, q22c⟩ := isOf hZ ec21 E_10
    obtain ⟨_, _, ⟨T22, L22, k22, n22⟩, -, X22, ⟨Lc22, hQ22, l22, y22, z22⟩, st22⟩ := X21.virtualBack hx (y := (⟨"com/example/processes_as_trees/processesastrees/Formula$Operation", "isConnective", "()Z"⟩ : MethodName)) (z := (⟨"com/example/processes_as_trees/processesastrees/Formula$Operation", "isConnective", "()Z"⟩ : MethodName)) hown (mvT hZ (hw _ (List.mem_of_getElem? (i := 8) rfl))) (mvT hZ (hw _ (List.mem_of_getElem? (i := 9) rfl))) (notFace_of_selects (args := #[]) (mvT hZ (hw _ (List.mem_of_getElem? (i := 11) rfl)))) (mvT hZ (hw _ (List.mem_of_getElem? (i := 11) rfl))) (mvT hZ (hw _ (List.mem_of_getElem? (i := 10) rfl))) (by decide) (backOf (W := 0) (rmC l Z a0 hw [] w10 w8 w9 w10 w11 h0 n0 Zs S_8 S_9 S_10 S_11) hZ (hw _ (List.mem_of_getElem? (i := 12) rfl)) (hw _ (List.mem_of_getElem? (i := 6) rfl)) (by decide) (by decide)) q22a q22c (g := (mkF m 32 #[.val (.int i0), .val (.int (10 : Int32)), .val (.ref w10), .val (.int (1 : Int32))] [(.ref w10)])) rfl (by rw [hml]; rfl) (Steps.refl _) (argsL := []) (rest := []) (lenOf own_pd1 rfl) rfl (by show 2 * 0 + _ ≤ _; exact Nat.le_of_eq rfl) (hb hby at_32) (fun _ _ => ⟨rfl, ec21, (by decide : 0 + 0 ≤ _), (by decide : 0 + 0 ≤ _)⟩)
    dsimp only [Pt.U, Pt.locs, Pt.cells, Pt.slots] at X22 l22 y22 z22 st22 hQ22
    subst l22 y22 z22
    obtain ⟨rfl, Nq22, hp22⟩ := hQ22
    have Nf := Fr.app Nf Nq22
    have ec22 : T22.heap = h0 := hp22
    refine own_by (B := T22.setTop (mkF m 35 #[.val (.int i0), .val (.int (10 : Int32)), .val (.ref w10), .val (.int (1 : Int32))] [(.int (own_conn w10 w8 w9 w10 w11))])) (fun t k => st22.trans k) ?_
    refine own_by (B := T22.setTop (mkF m 36 #[.val (.int i0), .val (.int (10 : Int32)), .val (.ref w10), .val (.int (1 : Int32))] [(.int (1 : Int32)), (.int (own_conn w10 w8 w9 w10 w11))])) (fun t k => XS.iloadN X22.here hx rfl (hb hby at_35) rfl k) ?_
    have hv : own_conn w10 w8 w9 w10 w11 = 1 := by simp [own_conn]
    refine own_by (B := T22.setTop (mkF m 39 #[.val (.int i0), .val (.int (10 : Int32)), .val (.ref w10), .val (.int (1 : Int32))] [])) (fun t k => XS.icmpNo X22.here hx rfl (hb hby at_36) rfl (teq hv).2 k) ?_
    refine own_by (B := T22.setTop (mkF m 40 #[.val (.int i0), .val (.int (10 : Int32)), .val (.ref w10), .val (.int (1 : Int32))] [(.int (1 : Int32))])) (fun t k => XS.iconst X22.here hx rfl (hb hby at_39) k) ?_
    refine own_by (B := T22.setTop (mkF m 44 #[.val (.int i0), .val (.int (10 : Int32)), .val (.ref w10), .val (.int (1 : Int32))] [(.int (1 : Int32))])) (fun t k => XS.goto X22.here hx rfl (pc0 := 40) (pc' := 44) rfl (hb hby at_40) (by decide) (by decide) k) ?_
    exact own_end X22 (v := some (.int (1 : Int32))) (fun h => by rw [Bd.returns] at h; cases h) (BodyLoose.notSynchronized Bd) (Q := (Q_rm0 Z i0 w0 w1 w2 w3 w4 w5 w6 w7 w8 w9 w10 w11 w12 w13 h0 n0)) (fun fs hr => retN X22 hx (t := .boolean) Bd.returns (by simp) (hb hby at_44) hr) (show (Q_rm0 Z i0 w0 w1 w2 w3 w4 w5 w6 w7 w8 w9 w10 w11 w12 w13 h0 n0) _ T22.heap _ from (by rw [ec22]; exact ⟨rfl, Nf⟩)) (by decide) (by decide)
  · rw [hq]
    refine own_by (B := s₁.setTop (mkF m 9 #[.val (.int i0), .val (.int (11 : Int32)), .unset, .unset] [(.int (11 : Int32))])) (fun t k => XS.iloadN X0.here hx rfl (hb hby at_8) rfl k) ?_
    obtain ⟨_, _, ⟨T23, L23, k23, n23⟩, -, X23, ⟨Lc23, hQ23, l23, y23, z23⟩, st23⟩ := Jvm.LawKit.callS X0 hx (y := (⟨"com/example/processes_as_trees/processesastrees/OperationIsConnectivePinLaw", "pick", "(I)Lcom/example/processes_as_trees/processesastrees/Formula$Operation;"⟩ : MethodName)) hown (mvT hZ (hw _ (List.mem_of_getElem? (i := 1) rfl))) (mvT hZ (hw _ (List.mem_of_getElem? (i := 2) rfl))) (mvT hZ (hw _ (List.mem_of_getElem? (i := 3) rfl))) (mvT hZ (hw _ (List.mem_of_getElem? (i := 4) rfl))) (by decide) (backOf (W := 0) (rmP l Z a0 hw [] (11 : Int32) w0 w1 w2 w3 w4 w5 w6 w7 w8 w9 w10 w11 w12 w13 h0 n0 Zs S_0 S_1 S_2 S_3 S_4 S_5 S_6 S_7 S_8 S_9 S_10 S_11 S_12 S_13) hZ (hw _ (List.mem_of_getElem? (i := 4) rfl)) (hw _ (List.mem_of_getElem? (i := 3) rfl)) (by decide) (by decide)) (g := (mkF m 9 #[.val (.int i0), .val (.int (11 : Int32)), .unset, .unset] [(.int (11 : Int32))])) rfl (by rw [hml]; rfl) (argsL := [(.int (11 : Int32))]) (rest := []) (lenOf own_pd0 rfl) rfl (by show 2 * 0 + _ ≤ _; exact Nat.le_of_eq rfl) (hb hby at_9) (fun _ _ => ⟨rfl, e0, (by decide : 0 + 0 ≤ _), (by decide : 0 + 0 ≤ _)⟩)
    dsimp only [Pt.U, Pt.locs, Pt.cells, Pt.slots] at X23 l23 y23 z23 st23 hQ23
    subst l23 y23 z23
    obtain ⟨rfl, Nq23, hp23⟩ := hQ23
    have Nf := Fr.app Nf Nq23
    have ec23 : T23.heap = h0 := hp23
    refine own_by (B := T23.setTop (mkF m 12 #[.val (.int i0), .val (.int (11 : Int32)), .unset, .unset] [(.ref w11)])) st23 ?_
    refine own_by (B := T23.setTop (mkF m 13 #[.val (.int i0), .val (.int (11 : Int32)), .val (.ref w11), .unset] [])) (fun t k => XS.astoreN X23.here hx rfl (hb hby at_12) rfl rfl (l' := #[.val (.int i0), .val (.int (11 : Int32)), .val (.ref w11), .unset]) rfl k) ?_
    refine own_by (B := T23.setTop (mkF m 14 #[.val (.int i0), .val (.int (11 : Int32)), .val (.ref w11), .unset] [(.int (11 : Int32))])) (fun t k => XS.iloadN X23.here hx rfl (hb hby at_13) rfl k) ?_
    refine own_by (B := T23.setTop (mkF m 16 #[.val (.int i0), .val (.int (11 : Int32)), .val (.ref w11), .unset] [(.int (8 : Int32)), (.int (11 : Int32))])) (fun t k => XS.bipush X23.here hx rfl (hb hby at_14) k) ?_
    refine own_by (B := T23.setTop (mkF m 19 #[.val (.int i0), .val (.int (11 : Int32)), .val (.ref w11), .unset] [])) (fun t k => XS.icmpNo X23.here hx rfl (hb hby at_16) rfl (flt (by decide)).1 k) ?_
    refine own_by (B := T23.setTop (mkF m 20 #[.val (.int i0), .val (.int (11 : Int32)), .val (.ref w11), .unset] [(.int (11 : Int32))])) (fun t k => XS.iloadN X23.here hx rfl (hb hby at_19) rfl k) ?_
    refine own_by (B := T23.setTop (mkF m 22 #[.val (.int i0), .val (.int (11 : Int32)), .val (.ref w11), .unset] [(.int (11 : Int32)), (.int (11 : Int32))])) (fun t k => XS.bipush X23.here hx rfl (hb hby at_20) k) ?_
    refine own_by (B := T23.setTop (mkF m 25 #[.val (.int i0), .val (.int (11 : Int32)), .val (.ref w11), .unset] [])) (fun t k => XS.icmpNo X23.here hx rfl (hb hby at_22) rfl (flt (by decide)).2.2.1 k) ?_
    refine own_by (B := T23.setTop (mkF m 26 #[.val (.int i0), .val (.int (11 : Int32)), .val (.ref w11), .unset] [(.int (1 : Int32))])) (fun t k => XS.iconst X23.here hx rfl (hb hby at_25) k) ?_
    refine own_by (B := T23.setTop (mkF m 30 #[.val (.int i0), .val (.int (11 : Int32)), .val (.ref w11), .unset] [(.int (1 : Int32))])) (fun t k => XS.goto X23.here hx rfl (pc0 := 26) (pc' := 30) rfl (hb hby at_26) (by decide) (by decide) k) ?_
    refine own_by (B := T23.setTop (mkF m 31 #[.val (.int i0), .val (.int (11 : Int32)), .val (.ref w11), .val (.int (1 : Int32))] [])) (fun t k => XS.istoreN X23.here hx rfl (hb hby at_30) rfl (l' := #[.val (.int i0), .val (.int (11 : Int32)), .val (.ref w11), .val (.int (1 : Int32))]) rfl k) ?_
    refine own_by (B := T23.setTop (mkF m 32 #[.val (.int i0), .val (.int (11 : Int32)), .val (.ref w11), .val (.int (1 : Int32))] [(.ref w11)])) (fun t k => XS.aloadN X23.here hx rfl (hb hby at_31) rfl rfl k) ?_
    obtain ⟨cq24, kq24, q24a, q24b, q24c⟩ := isOf hZ ec23 E_11
    obtain ⟨_, _, ⟨T24, L24, k24, n24⟩, -, X24, ⟨Lc24, hQ24, l24, y24, z24⟩, st24⟩ := X23.virtualBack hx (y := (⟨"com/example/processes_as_trees/processesastrees/Formula$Operation", "isConnective", "()Z"⟩ : MethodName)) (z := (⟨"com/example/processes_as_trees/processesastrees/Formula$Operation", "isConnective", "()Z"⟩ : MethodName)) hown (mvT hZ (hw _ (List.mem_of_getElem? (i := 8) rfl))) (mvT hZ (hw _ (List.mem_of_getElem? (i := 9) rfl))) (notFace_of_selects (args := #[]) (mvT hZ (hw _ (List.mem_of_getElem? (i := 11) rfl)))) (mvT hZ (hw _ (List.mem_of_getElem? (i := 11) rfl))) (mvT hZ (hw _ (List.mem_of_getElem? (i := 10) rfl))) (by decide) (backOf (W := 0) (rmC l Z a0 hw [] w11 w8 w9 w10 w11 h0 n0 Zs S_8 S_9 S_10 S_11) hZ (hw _ (List.mem_of_getElem? (i := 12) rfl)) (hw _ (List.mem_of_getElem? (i := 6) rfl)) (by decide) (by decide)) q24a q24c (g := (mkF m 32 #[.val (.int i0), .val (.int (11 : Int32)), .val (.ref w11), .val (.int (1 : Int32))] [(.ref w11)])) rfl (by rw [hml]; rfl) (Steps.refl _) (argsL := []) (rest := []) (lenOf own_pd1 rfl) rfl (by show 2 * 0 + _ ≤ _; exact Nat.le_of_eq rfl) (hb hby at_32) (fun _ _ => ⟨rfl, ec23, (by decide : 0 + 0 ≤ _), (by decide : 0 + 0 ≤ _)⟩)
    dsimp only [Pt.U, Pt.locs, Pt.cells, Pt.slots] at X24 l24 y24 z24 st24 hQ24
    subst l24 y24 z24
    obtain ⟨rfl, Nq24, hp24⟩ := hQ24
    have Nf := Fr.app Nf Nq24
    have ec24 : T24.heap = h0 := hp24
    refine own_by (B := T24.setTop (mkF m 35 #[.val (.int i0), .val (.int (11 : Int32)), .val (.ref w11), .val (.int (1 : Int32))] [(.int (own_conn w11 w8 w9 w10 w11))])) (fun t k => st24.trans k) ?_
    refine own_by (B := T24.setTop (mkF m 36 #[.val (.int i0), .val (.int (11 : Int32)), .val (.ref w11), .val (.int (1 : Int32))] [(.int (1 : Int32)), (.int (own_conn w11 w8 w9 w10 w11))])) (fun t k => XS.iloadN X24.here hx rfl (hb hby at_35) rfl k) ?_
    have hv : own_conn w11 w8 w9 w10 w11 = 1 := by simp [own_conn]
    refine own_by (B := T24.setTop (mkF m 39 #[.val (.int i0), .val (.int (11 : Int32)), .val (.ref w11), .val (.int (1 : Int32))] [])) (fun t k => XS.icmpNo X24.here hx rfl (hb hby at_36) rfl (teq hv).2 k) ?_
    refine own_by (B := T24.setTop (mkF m 40 #[.val (.int i0), .val (.int (11 : Int32)), .val (.ref w11), .val (.int (1 : Int32))] [(.int (1 : Int32))])) (fun t k => XS.iconst X24.here hx rfl (hb hby at_39) k) ?_
    refine own_by (B := T24.setTop (mkF m 44 #[.val (.int i0), .val (.int (11 : Int32)), .val (.ref w11), .val (.int (1 : Int32))] [(.int (1 : Int32))])) (fun t k => XS.goto X24.here hx rfl (pc0 := 40) (pc' := 44) rfl (hb hby at_40) (by decide) (by decide) k) ?_
    exact own_end X24 (v := some (.int (1 : Int32))) (fun h => by rw [Bd.returns] at h; cases h) (BodyLoose.notSynchronized Bd) (Q := (Q_rm0 Z i0 w0 w1 w2 w3 w4 w5 w6 w7 w8 w9 w10 w11 w12 w13 h0 n0)) (fun fs hr => retN X24 hx (t := .boolean) Bd.returns (by simp) (hb hby at_44) hr) (show (Q_rm0 Z i0 w0 w1 w2 w3 w4 w5 w6 w7 w8 w9 w10 w11 w12 w13 h0 n0) _ T24.heap _ from (by rw [ec24]; exact ⟨rfl, Nf⟩)) (by decide) (by decide)
  · rw [hq]
    refine own_by (B := s₁.setTop (mkF m 9 #[.val (.int i0), .val (.int (12 : Int32)), .unset, .unset] [(.int (12 : Int32))])) (fun t k => XS.iloadN X0.here hx rfl (hb hby at_8) rfl k) ?_
    obtain ⟨_, _, ⟨T25, L25, k25, n25⟩, -, X25, ⟨Lc25, hQ25, l25, y25, z25⟩, st25⟩ := Jvm.LawKit.callS X0 hx (y := (⟨"com/example/processes_as_trees/processesastrees/OperationIsConnectivePinLaw", "pick", "(I)Lcom/example/processes_as_trees/processesastrees/Formula$Operation;"⟩ : MethodName)) hown (mvT hZ (hw _ (List.mem_of_getElem? (i := 1) rfl))) (mvT hZ (hw _ (List.mem_of_getElem? (i := 2) rfl))) (mvT hZ (hw _ (List.mem_of_getElem? (i := 3) rfl))) (mvT hZ (hw _ (List.mem_of_getElem? (i := 4) rfl))) (by decide) (backOf (W := 0) (rmP l Z a0 hw [] (12 : Int32) w0 w1 w2 w3 w4 w5 w6 w7 w8 w9 w10 w11 w12 w13 h0 n0 Zs S_0 S_1 S_2 S_3 S_4 S_5 S_6 S_7 S_8 S_9 S_10 S_11 S_12 S_13) hZ (hw _ (List.mem_of_getElem? (i := 4) rfl)) (hw _ (List.mem_of_getElem? (i := 3) rfl)) (by decide) (by decide)) (g := (mkF m 9 #[.val (.int i0), .val (.int (12 : Int32)), .unset, .unset] [(.int (12 : Int32))])) rfl (by rw [hml]; rfl) (argsL := [(.int (12 : Int32))]) (rest := []) (lenOf own_pd0 rfl) rfl (by show 2 * 0 + _ ≤ _; exact Nat.le_of_eq rfl) (hb hby at_9) (fun _ _ => ⟨rfl, e0, (by decide : 0 + 0 ≤ _), (by decide : 0 + 0 ≤ _)⟩)
    dsimp only [Pt.U, Pt.locs, Pt.cells, Pt.slots] at X25 l25 y25 z25 st25 hQ25
    subst l25 y25 z25
    obtain ⟨rfl, Nq25, hp25⟩ := hQ25
    have Nf := Fr.app Nf Nq25
    have ec25 : T25.heap = h0 := hp25
    refine own_by (B := T25.setTop (mkF m 12 #[.val (.int i0), .val (.int (12 : Int32)), .unset, .unset] [(.ref w12)])) st25 ?_
    refine own_by (B := T25.setTop (mkF m 13 #[.val (.int i0), .val (.int (12 : Int32)), .val (.ref w12), .unset] [])) (fun t k => XS.astoreN X25.here hx rfl (hb hby at_12) rfl rfl (l' := #[.val (.int i0), .val (.int (12 : Int32)), .val (.ref w12), .unset]) rfl k) ?_
    refine own_by (B := T25.setTop (mkF m 14 #[.val (.int i0), .val (.int (12 : Int32)), .val (.ref w12), .unset] [(.int (12 : Int32))])) (fun t k => XS.iloadN X25.here hx rfl (hb hby at_13) rfl k) ?_
    refine own_by (B := T25.setTop (mkF m 16 #[.val (.int i0), .val (.int (12 : Int32)), .val (.ref w12), .unset] [(.int (8 : Int32)), (.int (12 : Int32))])) (fun t k => XS.bipush X25.here hx rfl (hb hby at_14) k) ?_
    refine own_by (B := T25.setTop (mkF m 19 #[.val (.int i0), .val (.int (12 : Int32)), .val (.ref w12), .unset] [])) (fun t k => XS.icmpNo X25.here hx rfl (hb hby at_16) rfl (flt (by decide)).1 k) ?_
    refine own_by (B := T25.setTop (mkF m 20 #[.val (.int i0), .val (.int (12 : Int32)), .val (.ref w12), .unset] [(.int (12 : Int32))])) (fun t k => XS.iloadN X25.here hx rfl (hb hby at_19) rfl k) ?_
    refine own_by (B := T25.setTop (mkF m 22 #[.val (.int i0), .val (.int (12 : Int32)), .val (.ref w12), .unset] [(.int (11 : Int32)), (.int (12 : Int32))])) (fun t k => XS.bipush X25.here hx rfl (hb hby at_20) k) ?_
    refine own_by (B := T25.setTop (mkF m 29 #[.val (.int i0), .val (.int (12 : Int32)), .val (.ref w12), .unset] [])) (fun t k => XS.icmpYes X25.here hx rfl (pc0 := 22) (pc' := 29) rfl (hb hby at_22) rfl (tlt (by decide)).2.2.1 (by decide) (by decide) k) ?_
    refine own_by (B := T25.setTop (mkF m 30 #[.val (.int i0), .val (.int (12 : Int32)), .val (.ref w12), .unset] [(.int (0 : Int32))])) (fun t k => XS.iconst X25.here hx rfl (hb hby at_29) k) ?_
    refine own_by (B := T25.setTop (mkF m 31 #[.val (.int i0), .val (.int (12 : Int32)), .val (.ref w12), .val (.int (0 : Int32))] [])) (fun t k => XS.istoreN X25.here hx rfl (hb hby at_30) rfl (l' := #[.val (.int i0), .val (.int (12 : Int32)), .val (.ref w12), .val (.int (0 : Int32))]) rfl k) ?_
    refine own_by (B := T25.setTop (mkF m 32 #[.val (.int i0), .val (.int (12 : Int32)), .val (.ref w12), .val (.int (0 : Int32))] [(.ref w12)])) (fun t k => XS.aloadN X25.here hx rfl (hb hby at_31) rfl rfl k) ?_
    obtain ⟨cq26, kq26, q26a, q26b, q26c⟩ := isOf hZ ec25 E_12
    obtain ⟨_, _, ⟨T26, L26, k26, n26⟩, -, X26, ⟨Lc26, hQ26, l26, y26, z26⟩, st26⟩ := X25.virtualBack hx (y := (⟨"com/example/processes_as_trees/processesastrees/Formula$Operation", "isConnective", "()Z"⟩ : MethodName)) (z := (⟨"com/example/processes_as_trees/processesastrees/Formula$Operation", "isConnective", "()Z"⟩ : MethodName)) hown (mvT hZ (hw _ (List.mem_of_getElem? (i := 8) rfl))) (mvT hZ (hw _ (List.mem_of_getElem? (i := 9) rfl))) (notFace_of_selects (args := #[]) (mvT hZ (hw _ (List.mem_of_getElem? (i := 11) rfl)))) (mvT hZ (hw _ (List.mem_of_getElem? (i := 11) rfl))) (mvT hZ (hw _ (List.mem_of_getElem? (i := 10) rfl))) (by decide) (backOf (W := 0) (rmC l Z a0 hw [] w12 w8 w9 w10 w11 h0 n0 Zs S_8 S_9 S_10 S_11) hZ (hw _ (List.mem_of_getElem? (i := 12) rfl)) (hw _ (List.mem_of_getElem? (i := 6) rfl)) (by decide) (by decide)) q26a q26c (g := (mkF m 32 #[.val (.int i0), .val (.int (12 : Int32)), .val (.ref w12), .val (.int (0 : Int32))] [(.ref w12)])) rfl (by rw [hml]; rfl) (Steps.refl _) (argsL := []) (rest := []) (lenOf own_pd1 rfl) rfl (by show 2 * 0 + _ ≤ _; exact Nat.le_of_eq rfl) (hb hby at_32) (fun _ _ => ⟨rfl, ec25, (by decide : 0 + 0 ≤ _), (by decide : 0 + 0 ≤ _)⟩)
    dsimp only [Pt.U, Pt.locs, Pt.cells, Pt.slots] at X26 l26 y26 z26 st26 hQ26
    subst l26 y26 z26
    obtain ⟨rfl, Nq26, hp26⟩ := hQ26
    have Nf := Fr.app Nf Nq26
    have ec26 : T26.heap = h0 := hp26
    refine own_by (B := T26.setTop (mkF m 35 #[.val (.int i0), .val (.int (12 : Int32)), .val (.ref w12), .val (.int (0 : Int32))] [(.int (own_conn w12 w8 w9 w10 w11))])) (fun t k => st26.trans k) ?_
    refine own_by (B := T26.setTop (mkF m 36 #[.val (.int i0), .val (.int (12 : Int32)), .val (.ref w12), .val (.int (0 : Int32))] [(.int (0 : Int32)), (.int (own_conn w12 w8 w9 w10 w11))])) (fun t k => XS.iloadN X26.here hx rfl (hb hby at_35) rfl k) ?_
    have hne8 : w12 ≠ w8 := Fld.ne F_12 F_8 (by simp)
    have hne9 : w12 ≠ w9 := Fld.ne F_12 F_9 (by simp)
    have hne10 : w12 ≠ w10 := Fld.ne F_12 F_10 (by simp)
    have hne11 : w12 ≠ w11 := Fld.ne F_12 F_11 (by simp)
    have hv : own_conn w12 w8 w9 w10 w11 = 0 := by simp [own_conn, hne8, hne9, hne10, hne11]
    refine own_by (B := T26.setTop (mkF m 39 #[.val (.int i0), .val (.int (12 : Int32)), .val (.ref w12), .val (.int (0 : Int32))] [])) (fun t k => XS.icmpNo X26.here hx rfl (hb hby at_36) rfl (teq hv).2 k) ?_
    refine own_by (B := T26.setTop (mkF m 40 #[.val (.int i0), .val (.int (12 : Int32)), .val (.ref w12), .val (.int (0 : Int32))] [(.int (1 : Int32))])) (fun t k => XS.iconst X26.here hx rfl (hb hby at_39) k) ?_
    refine own_by (B := T26.setTop (mkF m 44 #[.val (.int i0), .val (.int (12 : Int32)), .val (.ref w12), .val (.int (0 : Int32))] [(.int (1 : Int32))])) (fun t k => XS.goto X26.here hx rfl (pc0 := 40) (pc' := 44) rfl (hb hby at_40) (by decide) (by decide) k) ?_
    exact own_end X26 (v := some (.int (1 : Int32))) (fun h => by rw [Bd.returns] at h; cases h) (BodyLoose.notSynchronized Bd) (Q := (Q_rm0 Z i0 w0 w1 w2 w3 w4 w5 w6 w7 w8 w9 w10 w11 w12 w13 h0 n0)) (fun fs hr => retN X26 hx (t := .boolean) Bd.returns (by simp) (hb hby at_44) hr) (show (Q_rm0 Z i0 w0 w1 w2 w3 w4 w5 w6 w7 w8 w9 w10 w11 w12 w13 h0 n0) _ T26.heap _ from (by rw [ec26]; exact ⟨rfl, Nf⟩)) (by decide) (by decide)
  · rw [hq]
    refine own_by (B := s₁.setTop (mkF m 9 #[.val (.int i0), .val (.int (13 : Int32)), .unset, .unset] [(.int (13 : Int32))])) (fun t k => XS.iloadN X0.here hx rfl (hb hby at_8) rfl k) ?_
    obtain ⟨_, _, ⟨T27, L27, k27, n27⟩, -, X27, ⟨Lc27, hQ27, l27, y27, z27⟩, st27⟩ := Jvm.LawKit.callS X0 hx (y := (⟨"com/example/processes_as_trees/processesastrees/OperationIsConnectivePinLaw", "pick", "(I)Lcom/example/processes_as_trees/processesastrees/Formula$Operation;"⟩ : MethodName)) hown (mvT hZ (hw _ (List.mem_of_getElem? (i := 1) rfl))) (mvT hZ (hw _ (List.mem_of_getElem? (i := 2) rfl))) (mvT hZ (hw _ (List.mem_of_getElem? (i := 3) rfl))) (mvT hZ (hw _ (List.mem_of_getElem? (i := 4) rfl))) (by decide) (backOf (W := 0) (rmP l Z a0 hw [] (13 : Int32) w0 w1 w2 w3 w4 w5 w6 w7 w8 w9 w10 w11 w12 w13 h0 n0 Zs S_0 S_1 S_2 S_3 S_4 S_5 S_6 S_7 S_8 S_9 S_10 S_11 S_12 S_13) hZ (hw _ (List.mem_of_getElem? (i := 4) rfl)) (hw _ (List.mem_of_getElem? (i := 3) rfl)) (by decide) (by decide)) (g := (mkF m 9 #[.val (.int i0), .val (.int (13 : Int32)), .unset, .unset] [(.int (13 : Int32))])) rfl (by rw [hml]; rfl) (argsL := [(.int (13 : Int32))]) (rest := []) (lenOf own_pd0 rfl) rfl (by show 2 * 0 + _ ≤ _; exact Nat.le_of_eq rfl) (hb hby at_9) (fun _ _ => ⟨rfl, e0, (by decide : 0 + 0 ≤ _), (by decide : 0 + 0 ≤ _)⟩)
    dsimp only [Pt.U, Pt.locs, Pt.cells, Pt.slots] at X27 l27 y27 z27 st27 hQ27
    subst l27 y27 z27
    obtain ⟨rfl, Nq27, hp27⟩ := hQ27
    have Nf := Fr.app Nf Nq27
    have ec27 : T27.heap = h0 := hp27
    refine own_by (B := T27.setTop (mkF m 12 #[.val (.int i0), .val (.int (13 : Int32)), .unset, .unset] [(.ref w13)])) st27 ?_
    refine own_by (B := T27.setTop (mkF m 13 #[.val (.int i0), .val (.int (13 : Int32)), .val (.ref w13), .unset] [])) (fun t k => XS.astoreN X27.here hx rfl (hb hby at_12) rfl rfl (l' := #[.val (.int i0), .val (.int (13 : Int32)), .val (.ref w13), .unset]) rfl k) ?_
    refine own_by (B := T27.setTop (mkF m 14 #[.val (.int i0), .val (.int (13 : Int32)), .val (.ref w13), .unset] [(.int (13 : Int32))])) (fun t k => XS.iloadN X27.here hx rfl (hb hby at_13) rfl k) ?_
    refine own_by (B := T27.setTop (mkF m 16 #[.val (.int i0), .val (.int (13 : Int32)), .val (.ref w13), .unset] [(.int (8 : Int32)), (.int (13 : Int32))])) (fun t k => XS.bipush X27.here hx rfl (hb hby at_14) k) ?_
    refine own_by (B := T27.setTop (mkF m 19 #[.val (.int i0), .val (.int (13 : Int32)), .val (.ref w13), .unset] [])) (fun t k => XS.icmpNo X27.here hx rfl (hb hby at_16) rfl (flt (by decide)).1 k) ?_
    refine own_by (B := T27.setTop (mkF m 20 #[.val (.int i0), .val (.int (13 : Int32)), .val (.ref w13), .unset] [(.int (13 : Int32))])) (fun t k => XS.iloadN X27.here hx rfl (hb hby at_19) rfl k) ?_
    refine own_by (B := T27.setTop (mkF m 22 #[.val (.int i0), .val (.int (13 : Int32)), .val (.ref w13), .unset] [(.int (11 : Int32)), (.int (13 : Int32))])) (fun t k => XS.bipush X27.here hx rfl (hb hby at_20) k) ?_
    refine own_by (B := T27.setTop (mkF m 29 #[.val (.int i0), .val (.int (13 : Int32)), .val (.ref w13), .unset] [])) (fun t k => XS.icmpYes X27.here hx rfl (pc0 := 22) (pc' := 29) rfl (hb hby at_22) rfl (tlt (by decide)).2.2.1 (by decide) (by decide) k) ?_
    refine own_by (B := T27.setTop (mkF m 30 #[.val (.int i0), .val (.int (13 : Int32)), .val (.ref w13), .unset] [(.int (0 : Int32))])) (fun t k => XS.iconst X27.here hx rfl (hb hby at_29) k) ?_
    refine own_by (B := T27.setTop (mkF m 31 #[.val (.int i0), .val (.int (13 : Int32)), .val (.ref w13), .val (.int (0 : Int32))] [])) (fun t k => XS.istoreN X27.here hx rfl (hb hby at_30) rfl (l' := #[.val (.int i0), .val (.int (13 : Int32)), .val (.ref w13), .val (.int (0 : Int32))]) rfl k) ?_
    refine own_by (B := T27.setTop (mkF m 32 #[.val (.int i0), .val (.int (13 : Int32)), .val (.ref w13), .val (.int (0 : Int32))] [(.ref w13)])) (fun t k => XS.aloadN X27.here hx rfl (hb hby at_31) rfl rfl k) ?_
    obtain ⟨cq28, kq28, q28a, q28b, q28c⟩ := isOf hZ ec27 E_13
    obtain ⟨_, _, ⟨T28, L28, k28, n28⟩, -, X28, ⟨Lc28, hQ28, l28, y28, z28⟩, st28⟩ := X27.virtualBack hx (y := (⟨"com/example/processes_as_trees/processesastrees/Formula$Operation", "isConnective", "()Z"⟩ : MethodName)) (z := (⟨"com/example/processes_as_trees/processesastrees/Formula$Operation", "isConnective", "()Z"⟩ : MethodName)) hown (mvT hZ (hw _ (List.mem_of_getElem? (i := 8) rfl))) (mvT hZ (hw _ (List.mem_of_getElem? (i := 9) rfl))) (notFace_of_selects (args := #[]) (mvT hZ (hw _ (List.mem_of_getElem? (i := 11) rfl)))) (mvT hZ (hw _ (List.mem_of_getElem? (i := 11) rfl))) (mvT hZ (hw _ (List.mem_of_getElem? (i := 10) rfl))) (by decide) (backOf (W := 0) (rmC l Z a0 hw [] w13 w8 w9 w10 w11 h0 n0 Zs S_8 S_9 S_10 S_11) hZ (hw _ (List.mem_of_getElem? (i := 12) rfl)) (hw _ (List.mem_of_getElem? (i := 6) rfl)) (by decide) (by decide)) q28a q28c (g := (mkF m 32 #[.val (.int i0), .val (.int (13 : Int32)), .val (.ref w13), .val (.int (0 : Int32))] [(.ref w13)])) rfl (by rw [hml]; rfl) (Steps.refl _) (argsL := []) (rest := []) (lenOf own_pd1 rfl) rfl (by show 2 * 0 + _ ≤ _; exact Nat.le_of_eq rfl) (hb hby at_32) (fun _ _ => ⟨rfl, ec27, (by decide : 0 + 0 ≤ _), (by decide : 0 + 0 ≤ _)⟩)
    dsimp only [Pt.U, Pt.locs, Pt.cells, Pt.slots] at X28 l28 y28 z28 st28 hQ28
    subst l28 y28 z28
    obtain ⟨rfl, Nq28, hp28⟩ := hQ28
    have Nf := Fr.app Nf Nq28
    have ec28 : T28.heap = h0 := hp28
    refine own_by (B := T28.setTop (mkF m 35 #[.val (.int i0), .val (.int (13 : Int32)), .val (.ref w13), .val (.int (0 : Int32))] [(.int (own_conn w13 w8 w9 w10 w11))])) (fun t k => st28.trans k) ?_
    refine own_by (B := T28.setTop (mkF m 36 #[.val (.int i0), .val (.int (13 : Int32)), .val (.ref w13), .val (.int (0 : Int32))] [(.int (0 : Int32)), (.int (own_conn w13 w8 w9 w10 w11))])) (fun t k => XS.iloadN X28.here hx rfl (hb hby at_35) rfl k) ?_
    have hne8 : w13 ≠ w8 := Fld.ne F_13 F_8 (by simp)
    have hne9 : w13 ≠ w9 := Fld.ne F_13 F_9 (by simp)
    have hne10 : w13 ≠ w10 := Fld.ne F_13 F_10 (by simp)
    have hne11 : w13 ≠ w11 := Fld.ne F_13 F_11 (by simp)
    have hv : own_conn w13 w8 w9 w10 w11 = 0 := by simp [own_conn, hne8, hne9, hne10, hne11]
    refine own_by (B := T28.setTop (mkF m 39 #[.val (.int i0), .val (.int (13 : Int32)), .val (.ref w13), .val (.int (0 : Int32))] [])) (fun t k => XS.icmpNo X28.here hx rfl (hb hby at_36) rfl (teq hv).2 k) ?_
    refine own_by (B := T28.setTop (mkF m 40 #[.val (.int i0), .val (.int (13 : Int32)), .val (.ref w13), .val (.int (0 : Int32))] [(.int (1 : Int32))])) (fun t k => XS.iconst X28.here hx rfl (hb hby at_39) k) ?_
    refine own_by (B := T28.setTop (mkF m 44 #[.val (.int i0), .val (.int (13 : Int32)), .val (.ref w13), .val (.int (0 : Int32))] [(.int (1 : Int32))])) (fun t k => XS.goto X28.here hx rfl (pc0 := 40) (pc' := 44) rfl (hb hby at_40) (by decide) (by decide) k) ?_
    exact own_end X28 (v := some (.int (1 : Int32))) (fun h => by rw [Bd.returns] at h; cases h) (BodyLoose.notSynchronized Bd) (Q := (Q_rm0 Z i0 w0 w1 w2 w3 w4 w5 w6 w7 w8 w9 w10 w11 w12 w13 h0 n0)) (fun fs hr => retN X28 hx (t := .boolean) Bd.returns (by simp) (hb hby at_44) hr) (show (Q_rm0 Z i0 w0 w1 w2 w3 w4 w5 w6 w7 w8 w9 w10 w11 w12 w13 h0 n0) _ T28.heap _ from (by rw [ec28]; exact ⟨rfl, Nf⟩)) (by decide) (by decide)
set_option maxRecDepth 65536 in
set_option maxHeartbeats 40000000 in
theorem comes_1 {Post : Tables → Env → Array Value → State → Outcome → State → Prop} (hpost : ∀ tb e args s v u, (limb_1_1.after args s (.returned v) u = true ∧ limb_1_2.after args s (.returned v) u = true ∧ True) → FrameEnd s (.returned v) u (Jvm.fieldLocs frame_1_writes args s ++ Jvm.arrayLocs frame_1_arrays args s ++ Jvm.staticLocs frame_1_statics s) 0 0 → Post tb e args s (.returned v) u) :
    ArmFor flags0 classFile x code maxLocals ret World_1 tables_1 room_1 Calls_1 rest_1 Pre_1 Post := by
  intro l hfl _ _ p e ha hc hk s m args below hf hA hF happ hP
  obtain ⟨hcalls, hrest, hpre⟩ := hP
  obtain ⟨-, -, -, hnamed, -, -, -, hat⟩ := (Spec.applies_iff hf).mp happ
  obtain ⟨hg, hn⟩ := and_e (Cond.before_iff.mp (show (Jvm.Cond.and given_1 narrow_1).before args s = true from hpre))
  obtain ⟨hcount, hg0⟩ := and_e hg
  have hv0 := hg0
  obtain ⟨w0, rfl⟩ : ∃ w0 : Value, args = #[w0] := by
    have hs : args.size = 1 := by simpa [Cond.value, given_1] using hcount
    obtain ⟨L⟩ := args
    match L, hs with
    | [w0], _ => exact ⟨w0, rfl⟩
  have hw := fun d (hd : d ∈ tables_1) => atoms_spec (ws := Jvm.Cond.code x code maxLocals ret :: tables_1) hat d (List.mem_cons_of_mem _ hd)
  have hfit : Fit s := fun {y c} hc i hi => by
    obtain ⟨ha, rfl⟩ := Array.getElem?_eq_some_iff.mp hc
    have q := List.all_eq_true.mp ((Array.all_eq_true_iff_forall_mem.mp hF) _ (Array.getElem_mem ha)) i (List.mem_range.mpr hi)
    simpa [Array.getElem?_eq_getElem hi] using q
  obtain ⟨i0, ei0⟩ := is_v hv0
  obtain rfl : w0 = (.int i0) := Option.some.inj ei0
  obtain ⟨hc0, hm0⟩ := and_e hn
  obtain ⟨hc1, hm1⟩ := and_e hm0
  obtain ⟨hc2, hm2⟩ := and_e hm1
  obtain ⟨hc3, hm3⟩ := and_e hm2
  obtain ⟨hc4, hm4⟩ := and_e hm3
  obtain ⟨hc5, hm5⟩ := and_e hm4
  obtain ⟨hc6, hm6⟩ := and_e hm5
  obtain ⟨hc7, hm7⟩ := and_e hm6
  obtain ⟨hc8, hm8⟩ := and_e hm7
  obtain ⟨hc9, hm9⟩ := and_e hm8
  obtain ⟨hc10, hm10⟩ := and_e hm9
  obtain ⟨hc11, hm11⟩ := and_e hm10
  obtain ⟨hc12, hm12⟩ := and_e hm11
  obtain ⟨hc13, hm13⟩ := and_e hm12
  obtain ⟨hc14, hm14⟩ := and_e hm13
  obtain ⟨hc15, hm15⟩ := and_e hm14
  obtain ⟨hc16, hm16⟩ := and_e hm15
  obtain ⟨hc17, hm17⟩ := and_e hm16
  obtain ⟨hc18, hm18⟩ := and_e hm17
  obtain ⟨hc19, hm19⟩ := and_e hm18
  obtain ⟨hc20, hm20⟩ := and_e hm19
  obtain ⟨hc21, hm21⟩ := and_e hm20
  obtain ⟨hc22, hm22⟩ := and_e hm21
  obtain ⟨hc23, hm23⟩ := and_e hm22
  obtain ⟨hc24, hm24⟩ := and_e hm23
  obtain ⟨hc25, hm25⟩ := and_e hm24
  obtain ⟨hc26, hm26⟩ := and_e hm25
  have hc27 := hm26
  obtain ⟨w0, ev0⟩ := exa_v hc0
  have E_0 := Exa.start ev0 hc0
  have S_0 := Sta.start ev0 (Or.inr ⟨hw _ (List.mem_of_getElem? (i := 6) rfl), hw _ (List.mem_of_getElem? (i := 7) rfl)⟩)
  have F_0 := Fld.start ((fld_at ev0).symm.trans (own_eqi hc2))
  obtain ⟨w1, ev1⟩ := exa_v hc22
  have E_1 := Exa.start ev1 hc22
  have S_1 := Sta.start ev1 (Or.inr ⟨hw _ (List.mem_of_getElem? (i := 6) rfl), hw _ (List.mem_of_getElem? (i := 37) rfl)⟩)
  have F_1 := Fld.start ((fld_at ev1).symm.trans (own_eqi hc23))
  obtain ⟨w2, ev2⟩ := exa_v hc20
  have E_2 := Exa.start ev2 hc20
  have S_2 := Sta.start ev2 (Or.inr ⟨hw _ (List.mem_of_getElem? (i := 6) rfl), hw _ (List.mem_of_getElem? (i := 32) rfl)⟩)
  have F_2 := Fld.start ((fld_at ev2).symm.trans (own_eqi hc21))
  obtain ⟨w3, ev3⟩ := exa_v hc10
  have E_3 := Exa.start ev3 hc10
  have S_3 := Sta.start ev3 (Or.inr ⟨hw _ (List.mem_of_getElem? (i := 6) rfl), hw _ (List.mem_of_getElem? (i := 22) rfl)⟩)
  have F_3 := Fld.start ((fld_at ev3).symm.trans (own_eqi hc11))
  obtain ⟨w4, ev4⟩ := exa_v hc16
  have E_4 := Exa.start ev4 hc16
  have S_4 := Sta.start ev4 (Or.inr ⟨hw _ (List.mem_of_getElem? (i := 6) rfl), hw _ (List.mem_of_getElem? (i := 28) rfl)⟩)
  have F_4 := Fld.start ((fld_at ev4).symm.trans (own_eqi hc17))
  obtain ⟨w5, ev5⟩ := exa_v hc24
  have E_5 := Exa.start ev5 hc24
  have S_5 := Sta.start ev5 (Or.inr ⟨hw _ (List.mem_of_getElem? (i := 6) rfl), hw _ (List.mem_of_getElem? (i := 40) rfl)⟩)
  have F_5 := Fld.start ((fld_at ev5).symm.trans (own_eqi hc25))
  obtain ⟨w6, ev6⟩ := exa_v hc26
  have E_6 := Exa.start ev6 hc26
  have S_6 := Sta.start ev6 (Or.inr ⟨hw _ (List.mem_of_getElem? (i := 6) rfl), hw _ (List.mem_of_getElem? (i := 42) rfl)⟩)
  have F_6 := Fld.start ((fld_at ev6).symm.trans (own_eqi hc27))
  obtain ⟨w7, ev7⟩ := exa_v hc18
  have E_7 := Exa.start ev7 hc18
  have S_7 := Sta.start ev7 (Or.inr ⟨hw _ (List.mem_of_getElem? (i := 6) rfl), hw _ (List.mem_of_getElem? (i := 30) rfl)⟩)
  have F_7 := Fld.start ((fld_at ev7).symm.trans (own_eqi hc19))
  obtain ⟨w8, ev8⟩ := exa_v hc1
  have E_8 := Exa.start ev8 hc1
  have S_8 := Sta.start ev8 (Or.inr ⟨hw _ (List.mem_of_getElem? (i := 6) rfl), hw _ (List.mem_of_getElem? (i := 14) rfl)⟩)
  have F_8 := Fld.start ((fld_at ev8).symm.trans (own_eqi hc3))
  obtain ⟨w9, ev9⟩ := exa_v hc4
  have E_9 := Exa.start ev9 hc4
  have S_9 := Sta.start ev9 (Or.inr ⟨hw _ (List.mem_of_getElem? (i := 6) rfl), hw _ (List.mem_of_getElem? (i := 16) rfl)⟩)
  have F_9 := Fld.start ((fld_at ev9).symm.trans (own_eqi hc5))
  obtain ⟨w10, ev10⟩ := exa_v hc6
  have E_10 := Exa.start ev10 hc6
  have S_10 := Sta.start ev10 (Or.inr ⟨hw _ (List.mem_of_getElem? (i := 6) rfl), hw _ (List.mem_of_getElem? (i := 18) rfl)⟩)
  have F_10 := Fld.start ((fld_at ev10).symm.trans (own_eqi hc7))
  obtain ⟨w11, ev11⟩ := exa_v hc8
  have E_11 := Exa.start ev11 hc8
  have S_11 := Sta.start ev11 (Or.inr ⟨hw _ (List.mem_of_getElem? (i := 6) rfl), hw _ (List.mem_of_getElem? (i := 20) rfl)⟩)
  have F_11 := Fld.start ((fld_at ev11).symm.trans (own_eqi hc9))
  obtain ⟨w12, ev12⟩ := exa_v hc12
  have E_12 := Exa.start ev12 hc12
  have S_12 := Sta.start ev12 (Or.inr ⟨hw _ (List.mem_of_getElem? (i := 6) rfl), hw _ (List.mem_of_getElem? (i := 24) rfl)⟩)
  have F_12 := Fld.start ((fld_at ev12).symm.trans (own_eqi hc13))
  obtain ⟨w13, ev13⟩ := exa_v hc14
  have E_13 := Exa.start ev13 hc14
  have S_13 := Sta.start ev13 (Or.inr ⟨hw _ (List.mem_of_getElem? (i := 6) rfl), hw _ (List.mem_of_getElem? (i := 26) rfl)⟩)
  have F_13 := Fld.start ((fld_at ev13).symm.trans (own_eqi hc15))
  obtain ⟨n, o, h1, h2, h3, _, L, rfl, ⟨rfl, N⟩, hq⟩ := rm0 l s _ hw tables_1 i0 w0 w1 w2 w3 w4 w5 w6 w7 w8 w9 w10 w11 w12 w13 s.heap s.heap.size (Nat.le_refl _) S_0 S_1 S_2 S_3 S_4 S_5 S_6 S_7 S_8 S_9 S_10 S_11 S_12 S_13 E_0 E_1 E_2 E_3 E_4 E_5 E_6 E_7 E_8 E_9 E_10 E_11 E_12 E_13 F_0 F_1 F_2 F_3 F_4 F_5 F_6 F_7 F_8 F_9 F_10 F_11 F_12 F_13 p e ha hc hk s m _ below hf ((Spec.applies_iff_loose hf).mp happ).1 ⟨rfl, State.Warmed39.refl s, rfl⟩ trivial
  refine ⟨n, _, h1, h2, h3, hpost _ _ _ _ _ _ ⟨Cond.after_iff.mpr rfl, Cond.after_iff.mpr (eq_i res_at (Term.int_eval (1)) rfl), trivial⟩ ⟨hq.1, hq.2.1, (hq.2.2.sift fun y hy => Or.inr (N y hy)).mono (by decide) (by decide)⟩⟩
theorem main_1_1 : Claimed_1_1 := comes_1 fun _ _ _ _ _ _ h hF => ⟨h.1, hF⟩
theorem main_1_2 : Claimed_1_2 := comes_1 fun _ _ _ _ _ _ h hF => ⟨h.2.1, hF⟩
end Jvm.Pilot.@@N@@
namespace Jvm.Pilot.@@N@@
open Jvm Jvm.ClassFile Sem Op Lib Jvm.Free Jvm.Stand Jvm.Pilot.@@N@@.Jvm.D
/-! MADE BY PROGRAM (witnessworld.py) out of the Statement's table words and the real class files: 12 classes; the members and pool entries that the words name. The judged class is class 1, her method 1. -/
namespace start1
open Jvm.ClassFile
def u (s : String) : CpInfo := .utf8 (stringToUtf16 s)
/-- a pool by its gaps: so many unusable entries, then the entry; so many at the end -/
def gap : Nat → List CpInfo → List CpInfo
  | 0, r => r
  | n + 1, r => .unusable :: gap n r
def poolList (es : List (Nat × CpInfo)) (last : Nat) : List CpInfo := es.foldr (fun e r => gap e.1 (e.2 :: r)) (gap last [])
def pool (es : List (Nat × CpInfo)) (last : Nat) : Array CpInfo := ⟨poolList es last⟩
def fileOf (pool : Array CpInfo) (this : Nat) (attrs : Array Attribute := #[]) (ms : Array MethodInfo := #[]) (fl : Nat := 33) (sup : Nat := 0) (ifs : Array Nat := #[]) (fds : Array FieldInfo := #[]) : ClassFile where
  minorVersion := 0
  majorVersion := 65
  constantPool := pool
  accessFlags := fl
  thisClass := this
  superClass := sup
  interfaces := ifs
  fields := fds
  methods := ms
  attributes := attrs
def plain (name : String) (sup : Option ClassId) : Class where
  name := name
  kind := .ordinary
  loader := none
  accessFlags := 33
  super := sup
  interfaces := #[]
  cf := none
  fields := #[]
  methods := #[]
  instanceTypes := #[]
  staticTypes := #[]
  resolved := #[]
  callSites := []
  init := .initialized
  statics := none
  mirror := none

def pool0 : Array CpInfo := pool [(5, u "<init>"), (0, u "()V"), (1, .class_ 10), (1, u "java/lang/Object")] 113

def k0m0 : Method := { name := "<init>", desc := "()V", sig := { parameters := [], returnType := none }, accessFlags := 1, code := none }
/-- java/lang/Object -/
def k0 : Class := { plain "java/lang/Object" none with
  accessFlags := 33
  interfaces := #[]
  cf := some (fileOf pool0 8 #[] #[{ accessFlags := 1, nameIndex := 5, descriptorIndex := 6, attributes := #[] }] 33 0 #[] #[])
  fields := #[]
  methods := #[k0m0]
  instanceTypes := #[]
  staticTypes := #[]
  resolved := Array.replicate 124 none
  statics := none }

def pool1 : Array CpInfo := pool [(2, .class_ 4), (1, u "java/lang/Object"), (0, u "<init>"), (0, u "()V"), (0, .integer 2147483647), (0, .methodref 9 10), (0, .class_ 11), (0, .nameAndType 12 13), (0, u "com/example/processes_as_trees/processesastrees/OperationIsConnectivePinLaw"), (0, u "pick"), (0, u "(I)Lcom/example/processes_as_trees/processesastrees/Formula$Operation;"), (0, .methodref 15 16), (0, .class_ 17), (0, .nameAndType 18 19), (0, u "com/example/processes_as_trees/processesastrees/Formula$Operation"), (0, u "isConnective"), (0, u "()Z"), (0, .fieldref 15 21), (0, .nameAndType 22 23), (0, u "TRUE"), (0, u "Lcom/example/processes_as_trees/processesastrees/Formula$Operation;"), (0, .fieldref 15 25), (0, .nameAndType 26 23), (0, u "FALSE"), (0, .fieldref 15 28), (0, .nameAndType 29 23), (0, u "TERMINATED"), (0, .fieldref 15 31), (0, .nameAndType 32 23), (0, u "HAS"), (0, .fieldref 15 34), (0, .nameAndType 35 23), (0, u "ACTIVE"), (0, .fieldref 15 37), (0, .nameAndType 38 23), (0, u "ENABLED"), (0, .fieldref 15 40), (0, .nameAndType 41 23), (0, u "FIRES"), (0, .fieldref 15 43), (0, .nameAndType 44 23), (0, u "IN"), (0, .fieldref 15 46), (0, .nameAndType 47 23), (0, u "NOT"), (0, .fieldref 15 49), (0, .nameAndType 50 23), (0, u "AND"), (0, .fieldref 15 52), (0, .nameAndType 53 23), (0, u "OR"), (0, .fieldref 15 55), (0, .nameAndType 56 23), (0, u "IMPLIES"), (0, .fieldref 15 58), (0, .nameAndType 59 23), (0, u "EX"), (0, .fieldref 15 61), (0, .nameAndType 62 23), (0, u "EF"), (2, u "law"), (0, u "(I)Z")] 7

def k1m0 : Method := { name := "<init>", desc := "()V", sig := { parameters := [], returnType := none }, accessFlags := 1, code := none }
def k1c1 : Code := { maxStack := 2, maxLocals := 4, code := code, exceptionTable := #[], attributes := #[] }
def k1m1 : Method := { name := "law", desc := "(I)Z", sig := { parameters := [.int], returnType := some .boolean }, accessFlags := 9, code := some k1c1 }
def k1c2 : Code := { maxStack := 2, maxLocals := 1, code := method_3_code, exceptionTable := #[], attributes := #[] }
def k1m2 : Method := { name := "pick", desc := "(I)Lcom/example/processes_as_trees/processesastrees/Formula$Operation;", sig := { parameters := [.int], returnType := some (.object "com/example/processes_as_trees/processesastrees/Formula$Operation") }, accessFlags := 10, code := some k1c2 }
/-- com/example/processes_as_trees/processesastrees/OperationIsConnectivePinLaw -/
def k1 : Class := { plain "com/example/processes_as_trees/processesastrees/OperationIsConnectivePinLaw" (some 0) with
  accessFlags := 49
  interfaces := #[]
  cf := some (fileOf pool1 9 #[] #[{ accessFlags := 1, nameIndex := 5, descriptorIndex := 6, attributes := #[] }, { accessFlags := 9, nameIndex := 65, descriptorIndex := 66, attributes := #[] }, { accessFlags := 10, nameIndex := 12, descriptorIndex := 13, attributes := #[] }] 49 2 #[] #[])
  fields := #[]
  methods := #[k1m0, k1m1, k1m2]
  instanceTypes := #[]
  staticTypes := #[]
  resolved := Array.replicate 74 none
  statics := none }

def pool2 : Array CpInfo := pool [(1, .class_ 2), (0, u "java/lang/constant/Constable"), (0, .class_ 4), (0, u "java/lang/Object")] 6

/-- java/lang/constant/Constable -/
def k2 : Class := { plain "java/lang/constant/Constable" (some 0) with
  accessFlags := 1537
  interfaces := #[]
  cf := some (fileOf pool2 1 #[] #[] 1537 3 #[] #[])
  fields := #[]
  methods := #[]
  instanceTypes := #[]
  staticTypes := #[]
  resolved := Array.replicate 11 none
  statics := none }

def pool3 : Array CpInfo := pool [(1, .class_ 2), (0, u "java/lang/Comparable"), (0, .class_ 4), (0, u "java/lang/Object")] 7

/-- java/lang/Comparable -/
def k3 : Class := { plain "java/lang/Comparable" (some 0) with
  accessFlags := 1537
  interfaces := #[]
  cf := some (fileOf pool3 1 #[] #[] 1537 3 #[] #[])
  fields := #[]
  methods := #[]
  instanceTypes := #[]
  staticTypes := #[]
  resolved := Array.replicate 12 none
  statics := none }

def pool4 : Array CpInfo := pool [(1, .class_ 2), (0, u "java/io/Serializable"), (0, .class_ 4), (0, u "java/lang/Object")] 2

/-- java/io/Serializable -/
def k4 : Class := { plain "java/io/Serializable" (some 0) with
  accessFlags := 1537
  interfaces := #[]
  cf := some (fileOf pool4 1 #[] #[] 1537 3 #[] #[])
  fields := #[]
  methods := #[]
  instanceTypes := #[]
  staticTypes := #[]
  resolved := Array.replicate 7 none
  statics := none }

def pool5 : Array CpInfo := pool [(2, .class_ 4), (1, u "java/lang/Enum"), (0, u "name"), (0, u "Ljava/lang/String;"), (2, u "ordinal"), (0, u "I"), (1, .class_ 14), (1, u "java/lang/Object"), (4, u "hash"), (86, .class_ 108), (1, u "java/lang/Enum$EnumDesc"), (2, .class_ 112), (0, u "java/lang/constant/Constable"), (0, .class_ 114), (0, u "java/lang/Comparable"), (0, .class_ 116), (0, u "java/io/Serializable")] 87

/-- java/lang/Enum -/
def k5 : Class := { plain "java/lang/Enum" (some 0) with
  accessFlags := 1057
  interfaces := #[2, 3, 4]
  cf := some (fileOf pool5 2 #[.nestMembers #[106]] #[] 1057 12 #[111, 113, 115] #[{ accessFlags := 18, nameIndex := 5, descriptorIndex := 6, attributes := #[] }, { accessFlags := 18, nameIndex := 9, descriptorIndex := 10, attributes := #[] }, { accessFlags := 2, nameIndex := 19, descriptorIndex := 10, attributes := #[] }])
  fields := #[{ name := "name", type := (.object "java/lang/String"), accessFlags := 18, slot := 0, constantValue := 0 }, { name := "ordinal", type := .int, accessFlags := 18, slot := 1, constantValue := 0 }, { name := "hash", type := .int, accessFlags := 2, slot := 2, constantValue := 0 }]
  methods := #[]
  instanceTypes := #[(.object "java/lang/String"), .int, .int]
  staticTypes := #[]
  resolved := Array.replicate 204 none
  statics := none }

def pool6 : Array CpInfo := pool [(1, .class_ 2), (0, u "com/example/processes_as_trees/processesastrees/Formula$Operation"), (2, u "TRUE"), (0, u "Lcom/example/processes_as_trees/processesastrees/Formula$Operation;"), (2, u "FALSE"), (2, u "TERMINATED"), (2, u "HAS"), (2, u "ACTIVE"), (2, u "ENABLED"), (2, u "FIRES"), (2, u "IN"), (0, .fieldref 1 29), (0, .nameAndType 30 6), (0, u "NOT"), (0, .fieldref 1 32), (0, .nameAndType 33 6), (0, u "AND"), (0, .fieldref 1 35), (0, .nameAndType 36 6), (0, u "OR"), (0, .fieldref 1 38), (0, .nameAndType 39 6), (0, u "IMPLIES"), (2, u "EX"), (2, u "EF"), (2, u "$VALUES"), (0, u "[Lcom/example/processes_as_trees/processesastrees/Formula$Operation;"), (6, .class_ 58), (1, u "java/lang/Enum"), (8, u "arity"), (0, u "I"), (30, u "()Z"), (1, u "isConnective"), (6, .class_ 109), (0, u "com/example/processes_as_trees/processesastrees/Formula")] 2

def k6c0 : Code := { maxStack := 2, maxLocals := 1, code := prog_21_method_6_code, exceptionTable := #[], attributes := #[] }
def k6m0 : Method := { name := "isConnective", desc := "()Z", sig := { parameters := [], returnType := some .boolean }, accessFlags := 0, code := some k6c0 }
/-- com/example/processes_as_trees/processesastrees/Formula$Operation -/
def k6 : Class := { plain "com/example/processes_as_trees/processesastrees/Formula$Operation" (some 5) with
  accessFlags := 16432
  interfaces := #[]
  cf := some (fileOf pool6 1 #[.nestHost 108] #[{ accessFlags := 0, nameIndex := 101, descriptorIndex := 99, attributes := #[] }] 16432 56 #[] #[{ accessFlags := 16409, nameIndex := 5, descriptorIndex := 6, attributes := #[] }, { accessFlags := 16409, nameIndex := 9, descriptorIndex := 6, attributes := #[] }, { accessFlags := 16409, nameIndex := 12, descriptorIndex := 6, attributes := #[] }, { accessFlags := 16409, nameIndex := 15, descriptorIndex := 6, attributes := #[] }, { accessFlags := 16409, nameIndex := 18, descriptorIndex := 6, attributes := #[] }, { accessFlags := 16409, nameIndex := 21, descriptorIndex := 6, attributes := #[] }, { accessFlags := 16409, nameIndex := 24, descriptorIndex := 6, attributes := #[] }, { accessFlags := 16409, nameIndex := 27, descriptorIndex := 6, attributes := #[] }, { accessFlags := 16409, nameIndex := 30, descriptorIndex := 6, attributes := #[] }, { accessFlags := 16409, nameIndex := 33, descriptorIndex := 6, attributes := #[] }, { accessFlags := 16409, nameIndex := 36, descriptorIndex := 6, attributes := #[] }, { accessFlags := 16409, nameIndex := 39, descriptorIndex := 6, attributes := #[] }, { accessFlags := 16409, nameIndex := 42, descriptorIndex := 6, attributes := #[] }, { accessFlags := 16409, nameIndex := 45, descriptorIndex := 6, attributes := #[] }, { accessFlags := 18, nameIndex := 67, descriptorIndex := 68, attributes := #[] }, { accessFlags := 4122, nameIndex := 48, descriptorIndex := 49, attributes := #[] }])
  fields := #[{ name := "TRUE", type := (.object "com/example/processes_as_trees/processesastrees/Formula$Operation"), accessFlags := 16409, slot := 0, constantValue := 0 }, { name := "FALSE", type := (.object "com/example/processes_as_trees/processesastrees/Formula$Operation"), accessFlags := 16409, slot := 1, constantValue := 0 }, { name := "TERMINATED", type := (.object "com/example/processes_as_trees/processesastrees/Formula$Operation"), accessFlags := 16409, slot := 2, constantValue := 0 }, { name := "HAS", type := (.object "com/example/processes_as_trees/processesastrees/Formula$Operation"), accessFlags := 16409, slot := 3, constantValue := 0 }, { name := "ACTIVE", type := (.object "com/example/processes_as_trees/processesastrees/Formula$Operation"), accessFlags := 16409, slot := 4, constantValue := 0 }, { name := "ENABLED", type := (.object "com/example/processes_as_trees/processesastrees/Formula$Operation"), accessFlags := 16409, slot := 5, constantValue := 0 }, { name := "FIRES", type := (.object "com/example/processes_as_trees/processesastrees/Formula$Operation"), accessFlags := 16409, slot := 6, constantValue := 0 }, { name := "IN", type := (.object "com/example/processes_as_trees/processesastrees/Formula$Operation"), accessFlags := 16409, slot := 7, constantValue := 0 }, { name := "NOT", type := (.object "com/example/processes_as_trees/processesastrees/Formula$Operation"), accessFlags := 16409, slot := 8, constantValue := 0 }, { name := "AND", type := (.object "com/example/processes_as_trees/processesastrees/Formula$Operation"), accessFlags := 16409, slot := 9, constantValue := 0 }, { name := "OR", type := (.object "com/example/processes_as_trees/processesastrees/Formula$Operation"), accessFlags := 16409, slot := 10, constantValue := 0 }, { name := "IMPLIES", type := (.object "com/example/processes_as_trees/processesastrees/Formula$Operation"), accessFlags := 16409, slot := 11, constantValue := 0 }, { name := "EX", type := (.object "com/example/processes_as_trees/processesastrees/Formula$Operation"), accessFlags := 16409, slot := 12, constantValue := 0 }, { name := "EF", type := (.object "com/example/processes_as_trees/processesastrees/Formula$Operation"), accessFlags := 16409, slot := 13, constantValue := 0 }, { name := "arity", type := .int, accessFlags := 18, slot := 3, constantValue := 0 }, { name := "$VALUES", type := (.array (.object "com/example/processes_as_trees/processesastrees/Formula$Operation")), accessFlags := 4122, slot := 14, constantValue := 0 }]
  methods := #[k6m0]
  instanceTypes := #[(.object "java/lang/String"), .int, .int, .int]
  staticTypes := #[(.object "com/example/processes_as_trees/processesastrees/Formula$Operation"), (.object "com/example/processes_as_trees/processesastrees/Formula$Operation"), (.object "com/example/processes_as_trees/processesastrees/Formula$Operation"), (.object "com/example/processes_as_trees/processesastrees/Formula$Operation"), (.object "com/example/processes_as_trees/processesastrees/Formula$Operation"), (.object "com/example/processes_as_trees/processesastrees/Formula$Operation"), (.object "com/example/processes_as_trees/processesastrees/Formula$Operation"), (.object "com/example/processes_as_trees/processesastrees/Formula$Operation"), (.object "com/example/processes_as_trees/processesastrees/Formula$Operation"), (.object "com/example/processes_as_trees/processesastrees/Formula$Operation"), (.object "com/example/processes_as_trees/processesastrees/Formula$Operation"), (.object "com/example/processes_as_trees/processesastrees/Formula$Operation"), (.object "com/example/processes_as_trees/processesastrees/Formula$Operation"), (.object "com/example/processes_as_trees/processesastrees/Formula$Operation"), (.array (.object "com/example/processes_as_trees/processesastrees/Formula$Operation"))]
  resolved := Array.replicate 112 none
  statics := some 0 }

def pool7 : Array CpInfo := pool [(1, u "java/lang/Cloneable"), (0, .class_ 1), (0, u "java/lang/Object"), (0, .class_ 3)] 3

/-- java/lang/Cloneable -/
def k7 : Class := { plain "java/lang/Cloneable" (some 0) with
  accessFlags := 1537
  interfaces := #[]
  cf := some (fileOf pool7 2 #[] #[] 1537 4 #[] #[])
  fields := #[]
  methods := #[]
  instanceTypes := #[]
  staticTypes := #[]
  resolved := Array.replicate 8 none
  statics := none }

/-- the primitive byte -/
def k8 : Class := { plain "byte" none with kind := .primitive 'B', accessFlags := 0x411 }
/-- [B -/
def k9 : Class := { plain "[B" (some 0) with kind := .array 8 .byte, interfaces := #[7, 4], accessFlags := 1041 }

/-- the primitive int -/
def k10 : Class := { plain "int" none with kind := .primitive 'I', accessFlags := 0x411 }
/-- [I -/
def k11 : Class := { plain "[I" (some 0) with kind := .array 10 .int, interfaces := #[7, 4], accessFlags := 1041 }

def heap : Heap := #[{ cls := 6, slots := #[.ref 1, .ref 2, .ref 3, .ref 4, .ref 5, .ref 6, .ref 7, .ref 8, .ref 9, .ref 10, .ref 11, .ref 12, .ref 13, .ref 14, .null], vm := .statics 6 },
  { cls := 6, slots := #[.null, .int 0, .int 0, .int 0], vm := .none },
  { cls := 6, slots := #[.null, .int 1, .int 0, .int 0], vm := .none },
  { cls := 6, slots := #[.null, .int 2, .int 0, .int 0], vm := .none },
  { cls := 6, slots := #[.null, .int 3, .int 0, .int 0], vm := .none },
  { cls := 6, slots := #[.null, .int 4, .int 0, .int 0], vm := .none },
  { cls := 6, slots := #[.null, .int 5, .int 0, .int 0], vm := .none },
  { cls := 6, slots := #[.null, .int 6, .int 0, .int 0], vm := .none },
  { cls := 6, slots := #[.null, .int 7, .int 0, .int 0], vm := .none },
  { cls := 6, slots := #[.null, .int 8, .int 0, .int 0], vm := .none },
  { cls := 6, slots := #[.null, .int 9, .int 0, .int 0], vm := .none },
  { cls := 6, slots := #[.null, .int 10, .int 0, .int 0], vm := .none },
  { cls := 6, slots := #[.null, .int 11, .int 0, .int 0], vm := .none },
  { cls := 6, slots := #[.null, .int 12, .int 0, .int 0], vm := .none },
  { cls := 6, slots := #[.null, .int 13, .int 0, .int 0], vm := .none }]
def classes : Array Class := #[k0, k1, k2, k3, k4, k5, k6, k7, k8, k9, k10, k11]
def interned : List (Array UInt16 × Addr) := []
def slotsUsed : Nat := 71
def theMethod : MethodId := ⟨1, 1⟩
def args0 : Array Value := #[.int 5]
def aboutOver (below : List Frame) : State where
  vm := { classes := classes, interned := interned.toArray }
  heap := heap
  slotsUsed := slotsUsed
  threads := #[{ frames := .invoking theMethod args0 :: below }]
def below0 : List Frame := [.native { method := ⟨0, 0⟩, args := #[] }]
def about1 : State := aboutOver below0
def p0 : Program := .bare "" "" ""
def e0 : Env := launch0.env 0 0 0
theorem w_frames : about1.frames = Frame.invoking theMethod args0 :: below0 := rfl
set_option maxRecDepth 65536 in
theorem w_args : argsFit about1.vm theMethod args0 = true := by decide +kernel
set_option maxRecDepth 65536 in
theorem w_heap : heapFits about1 = true := by decide +kernel
set_option maxRecDepth 65536 in
theorem w_runnable : about1.curStatus? = some .runnable := by decide +kernel
set_option maxRecDepth 65536 in
theorem w_alone : about1.alone = true := by decide +kernel
set_option maxRecDepth 65536 in
theorem w_named : about1.methodNamed? x = some theMethod := by decide +kernel
set_option maxRecDepth 65536 in
theorem w_hears : about1.hears theMethod below0 = true := by decide +kernel
set_option maxRecDepth 65536 in
theorem w_ripe : about1.ripe theMethod args0 below0 = true := by decide +kernel
theorem w_running : about1.status = .running := rfl
set_option maxRecDepth 65536 in
theorem w_room : about1.hasRoom e0.platform room_1 = true :=
  launch0.hasRoom_least _ room_1 (by decide +kernel) (by decide +kernel) (by decide +kernel) (by decide +kernel) (by decide +kernel) (by decide +kernel)
theorem allAtoms_all (ts : List Jvm.Cond) (a : Array Jvm.Value) (st : Jvm.State) : (allAtoms ts).before a st = ts.all (fun c => c.before a st) := by
  induction ts with
  | nil => rfl
  | cons c t ih =>
    show (Jvm.Cond.and c (allAtoms t)).before a st = _
    rw [Jvm.Cond.before_and, ih, List.all_cons]
def words1 : List Jvm.Cond := Jvm.Cond.code x code maxLocals ret :: tables_1
/-- a 'code' word, met by the world's own term for the bytes: nothing is compared byte by byte -/
theorem code_word {y : MethodName} {bytes : ByteArray} {mx : Nat} {rt : Option FieldType} {a : Array Value} {s : State} {m : MethodId} {meth : Method} {c : Code} (h1 : s.methodNamed? y = some m) (h2 : s.vm.method? m = some meth) (h3 : meth.code = some c) (h4 : c.code = bytes)
    (h5 : (c.maxLocals == mx && c.exceptionTable.isEmpty && decide (c.maxStack ≤ mostOperands) && decide (meth.sig.returnType = rt) && !meth.locks && decide (parseMethodDescriptor y.desc = some meth.sig)) = true) : (Jvm.Cond.code y bytes mx rt).before a s = true := by
  simp only [Bool.and_eq_true, beq_iff_eq, Bool.not_eq_true', decide_eq_true_eq] at h5
  obtain ⟨⟨⟨⟨⟨g1, g2⟩, g3⟩, g4⟩, g5⟩, g6⟩ := h5
  simp [Cond.before, Cond.holds, Cond.value, h1, h2, h3, h4, g1, g2, g3, g4, g5, g6]
def isCode : Jvm.Cond → Bool
  | .code _ _ _ _ => true
  | _ => false
theorem all_split {L : List Jvm.Cond} {P : Jvm.Cond → Bool} (h1 : L.all (fun c => isCode c || P c) = true) (h2 : ∀ c ∈ L.filter isCode, P c = true) : L.all P = true := by
  refine List.all_eq_true.mpr fun c hc => ?_
  have h := List.all_eq_true.mp h1 c hc
  rcases Bool.eq_false_or_eq_true (isCode c) with hi | hi
  · exact h2 c (List.mem_filter.mpr ⟨hc, hi⟩)
  · simpa [hi] using h
set_option maxRecDepth 65536 in
theorem w_c0 : (Jvm.Cond.code x code maxLocals ret).before args0 about1 = true := code_word (m := ⟨1, 1⟩) (meth := k1m1) (c := k1c1) (by decide +kernel) rfl rfl rfl (by decide +kernel)
set_option maxRecDepth 65536 in
theorem w_c1 : (Jvm.Cond.code ({ cls := "com/example/processes_as_trees/processesastrees/OperationIsConnectivePinLaw", name := "pick", desc := "(I)Lcom/example/processes_as_trees/processesastrees/Formula$Operation;" } : Jvm.MethodName) method_3_code (1 : Nat) (Option.some (Jvm.ClassFile.FieldType.object "com/example/processes_as_trees/processesastrees/Formula$Operation"))).before args0 about1 = true := code_word (m := ⟨1, 2⟩) (meth := k1m2) (c := k1c2) (by decide +kernel) rfl rfl rfl (by decide +kernel)
set_option maxRecDepth 65536 in
theorem w_c2 : (Jvm.Cond.code ({ cls := "com/example/processes_as_trees/processesastrees/Formula$Operation", name := "isConnective", desc := "()Z" } : Jvm.MethodName) prog_21_method_6_code (1 : Nat) (Option.some Jvm.ClassFile.FieldType.boolean)).before args0 about1 = true := code_word (m := ⟨6, 0⟩) (meth := k6m0) (c := k6c0) (by decide +kernel) rfl rfl rfl (by decide +kernel)
def codes1 : List Jvm.Cond := [Jvm.Cond.code x code maxLocals ret, Jvm.Cond.code ({ cls := "com/example/processes_as_trees/processesastrees/OperationIsConnectivePinLaw", name := "pick", desc := "(I)Lcom/example/processes_as_trees/processesastrees/Formula$Operation;" } : Jvm.MethodName) method_3_code (1 : Nat) (Option.some (Jvm.ClassFile.FieldType.object "com/example/processes_as_trees/processesastrees/Formula$Operation")), Jvm.Cond.code ({ cls := "com/example/processes_as_trees/processesastrees/Formula$Operation", name := "isConnective", desc := "()Z" } : Jvm.MethodName) prog_21_method_6_code (1 : Nat) (Option.some Jvm.ClassFile.FieldType.boolean)]
set_option maxRecDepth 65536 in
theorem codes_eq : words1.filter isCode = codes1 := rfl
theorem w_codes : ∀ c ∈ words1.filter isCode, c.before args0 about1 = true := by
  rw [codes_eq]
  intro c hc
  simp only [codes1, List.mem_cons, List.not_mem_nil, or_false] at hc
  rcases hc with rfl | rfl | rfl
  · exact w_c0
  · exact w_c1
  · exact w_c2
set_option maxRecDepth 65536 in
theorem w_t1 : (words1.take 24).all (fun c => isCode c || c.before args0 about1) = true := by decide +kernel
set_option maxRecDepth 65536 in
theorem w_t2 : (words1.drop 24).all (fun c => isCode c || c.before args0 about1) = true := by decide +kernel
theorem w_tables : (allAtoms (Jvm.Cond.code x code maxLocals ret :: tables_1)).before args0 about1 = true := by
  rw [allAtoms_all]
  show words1.all (fun c => c.before args0 about1) = true
  refine all_split ?_ w_codes
  rw [← List.take_append_drop 24 words1, List.all_append, w_t1, w_t2]
  rfl
set_option maxRecDepth 65536 in
theorem w_case : (Jvm.Cond.and given_1 narrow_1).before args0 about1 = true := by decide +kernel
theorem w_applies : (headSpec (Jvm.Cond.code x code maxLocals ret :: tables_1) room_1).applies x e0.platform about1 = true :=
  (Spec.applies_iff w_frames).mpr ⟨w_running, w_runnable, w_alone, w_named, w_hears, w_ripe, w_room, w_tables⟩
theorem atStart : AtStart classFile x code maxLocals ret World_1 tables_1 room_1 Calls_1 rest_1 Pre_1 launch0 p0 e0 about1 theMethod args0 below0 :=
  ⟨lists_1, trivial, launch0.admits_env _ _ _, launch0.least_env, fairChoices_fair.cas, fairChoices_fair.clock, w_frames, w_args, w_heap, w_applies, trivial, trivial, w_case⟩
end start1
theorem witness_1 : WitnessClaimed_1 := ⟨start1.p0, start1.e0, start1.about1, start1.theMethod, start1.args0, start1.below0, start1.atStart⟩
end Jvm.Pilot.@@N@@
