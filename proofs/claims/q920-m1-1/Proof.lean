import JvmDerived
import JvmDerived.Pilot.@@N@@Statement
import JvmDerived.Pilot.@@N@@Code
set_option linter.unusedVariables false
set_option linter.unusedSimpArgs false
namespace Jvm.RoadKit
open Sem ClassFile Op Lib Jvm.Stand Jvm.Free Jvm.LawKit
section New
variable {p : Program} {l : Launch} {e : Env} {R : Room} {s : State} {m : MethodId} {args : Array Value} {below : List Frame} {meth : Method} {c : Code} {T : State} {locs : List Loc} {cells slots : Nat}
theorem retI (X : Stand p l e R s m args below meth c T locs cells slots) (hx : p.tables.exec = Jvm.exec) {pc : Nat} {Ls : Array Slot} {z : Int32} {rest : List Value} (hret : meth.sig.returnType = some .int) (hd : decode c.code pc = .ok (.ireturn, 1)) {fs : List Frame}
    (hl : ∀ (f : JFrame) (acts : List Action), f.method = m → f.locked = none → f.entered = [] → (doReturn e (T.setTop f) acts (some (.int z))).1 = T.setFrames fs) : Steps p.tables e below (T.setTop (mkF m pc Ls (.int z :: rest))) (T.setFrames fs) := by
  have hm' : T.vm.method? m = some meth := X.method'
  have hn : narrow .int (.int z) = .int z := rfl
  show Steps p.tables e below (T.setTop { method := m, pc := pc, locals := Ls, stack := _ :: rest, locked := none }) _
  jvm_step X.here [X.here.top, hx, hd, hm', hret, hn]
  first | (intro acts; rw [hl _ acts rfl rfl rfl]) | rw [hl _ _ rfl rfl rfl]
  exact Steps.refl _
/-- the run from A ends, and P holds at the end -/
def own_Go (p : Program) (e : Env) (below : List Frame) (A : State) (P : State → Outcome → Prop) : Prop := ∃ s₂ o, Steps p.tables e below A s₂ ∧ s₂.status = .running ∧ Ended s₂ below o ∧ P s₂ o
theorem own_by {A B : State} {P : State → Outcome → Prop} (h : ∀ t, Steps p.tables e below B t → Steps p.tables e below A t) (g : own_Go p e below B P) : own_Go p e below A P := by
  obtain ⟨s2, o, h1, h2⟩ := g
  exact ⟨s2, o, h _ h1, h2⟩
theorem own_end (X : Stand p l e R s m args below meth c T locs cells slots) {v : Option Value} (hv : meth.sig.returnType = none → v = none) (hlk : meth.locks = false) {A : State} {Q : Option Value → Heap → List Loc → Prop} {k n : Nat}
    (hs : ∀ fs, (∀ (f : JFrame) (acts : List Action), f.method = m → f.locked = none → f.entered = [] → (doReturn e (T.setTop f) acts v).1 = T.setFrames fs) → Steps p.tables e below A (T.setFrames fs))
    (hq : Q v T.heap locs) (hk : cells ≤ k) (hn : slots ≤ n) : own_Go p e below A (fun t o => ∃ v L, o = .returned v ∧ Q v t.heap L ∧ FrameEnd s o t L k n) := by
  obtain ⟨fs, hr, hrun, hended, hW, hsame⟩ := X.leave (v := v) hv hlk
  exact ⟨_, _, hs fs hr, hrun, hended, _, _, rfl, hq, ⟨_, rfl⟩, hW, hsame.mono hk hn⟩
theorem own_endW {vm₁ : Vm} (X : Stand p l e R (s.setVm vm₁) m args below meth c T locs cells slots) {n0 : Nat} (hS : s.Since vm₁ n0) (hn0 : n0 ≤ T.heap.size) {v : Option Value} (hv : meth.sig.returnType = none → v = none) (hlk : meth.locks = false) {A : State} {Q : Option Value → Heap → List Loc → Prop} {k n : Nat}
    (hs : ∀ fs, (∀ (f : JFrame) (acts : List Action), f.method = m → f.locked = none → f.entered = [] → (doReturn e (T.setTop f) acts v).1 = T.setFrames fs) → Steps p.tables e below A (T.setFrames fs))
    (hq : Q v T.heap locs) (hk : cells ≤ k) (hn : slots ≤ n) : own_Go p e below A (fun t o => ∃ v L, o = .returned v ∧ Q v t.heap L ∧ ReturnedEndW s o t L k n) := by
  obtain ⟨fs, hr, hrun, hended, h1, h2, h3, h4⟩ := X.leaveW hS hn0 (v := v) hv hlk
  exact ⟨_, _, hs fs hr, hrun, hended, _, _, rfl, hq, h1, h2, h3, h4.mono hk hn⟩
theorem own_newPE {Z : State} {a0 : Array Value} {h : Heap} (X : Stand p l e R s m args below meth c T locs cells slots) (hx : p.tables.exec = Jvm.exec) (hZ : Z.Warmed39 s.vm) {aty : ArrayType} (w : (Cond.arrayClass (newarray.typeOf aty)).before a0 Z = true) (eT : T.heap = h) {g : JFrame} (hg : g.method = m) (hd : decode c.code g.pc = .ok (.newarray aty, 2)) {n : Int32} {rest : List Value} (hs : g.stack = .int n :: rest)
    (hn : ¬ n < 0) {cap : Nat} (hcap : n.toNatClampNeg ≤ cap) (hb : cap * 8 ≤ 536870912) (hc : cells + 1 ≤ R.cells) (hl : slots + cap ≤ R.slots) {ad : String} (had : "[" ++ (newarray.typeOf aty).toString = ad) :
    ∃ T' h' cA, Stand p l e R s m args below meth c T' locs (cells + 1) (slots + cap) ∧ T'.heap = h' ∧ Ext h h' ∧ Arr Z h' h.size (newA cA (newarray.typeOf aty) n) (newarray.typeOf aty) ∧ Exa Z h' h.size ad ∧
      ∀ target, Steps p.tables e below (T'.setTop { g with pc := g.pc + 2, stack := .ref h.size :: rest }) target → Steps p.tables e below (T.setTop g) target := by
  have hcb : componentBytes (newarray.typeOf aty) ≤ 8 := by cases aty <;> decide
  obtain ⟨cA, kA, comp, f1, f2, f3, Y, st⟩ := X.newarrayPrim hx (mvA hZ w) hg hd hs hn (Nat.le_trans (Nat.mul_le_mul hcap hcb) hb) hc (Nat.le_trans (Nat.add_le_add_left hcap _) hl)
  subst eT had
  have f1' : Z.vm.findClass ("[" ++ (newarray.typeOf aty).toString) = some cA := by rw [← hZ.alike.findClass]; exact f1
  obtain ⟨kZ, z1, -⟩ := Vm.findClass_spec f1'
  obtain ⟨k', z2, z3⟩ := hZ.alike.2.2 _ _ z1
  have ek : kA = k' := Option.some.inj (f2.symm.trans z2)
  have kd : kZ.kind = .array comp (newarray.typeOf aty) := by rw [← f3, ek, z3]
  have hN : (T.heap.push (newA cA (newarray.typeOf aty) n))[T.heap.size]? = some (newA cA (newarray.typeOf aty) n) := by simp
  refine ⟨_, _, cA, Y.more (Nat.le_refl _) (Nat.add_le_add_left hcap _), rfl, ext_of fun a q => ?_, ⟨hN, ⟨fun _ z => (by cases z), kZ, z1, comp, kd⟩, fun z => (by cases z)⟩, ⟨_, kZ, hN, f1', z1, rfl, fun ho => by rw [kd] at ho; cases ho⟩, st⟩
  exact (Array.getElem?_push_lt q).trans (Array.getElem?_eq_getElem q).symm
end New
section Arf
variable {Z : State} {h h' : Heap} {a b : Addr} {ty : FieldType} {n z : Int32} {f g : Nat → Value} {sl : Nat} {v : Value} {ws : List Addr} {k : ClassId}
/-- an array of n places, of which place i holds f i -/
def own_Arf (Z : State) (h : Heap) (a : Addr) (ty : FieldType) (n : Int32) (f : Nat → Value) : Prop := ∃ c : Cell, Arr Z h a c ty ∧ c.slots.size = n.toNatClampNeg ∧ ¬ n < 0 ∧ ∀ i, i < c.slots.size → c.slots[i]? = some (f i)
theorem own_Arf.lt (F : own_Arf Z h a ty n f) : a < h.size := by obtain ⟨c, A, -⟩ := F; exact A.lt
theorem own_Arf.ext (F : own_Arf Z h a ty n f) (E : Ext h h') : own_Arf Z h' a ty n f := by obtain ⟨c, A, r⟩ := F; exact ⟨c, A.ext E, r⟩
theorem own_Arf.other (F : own_Arf Z h b ty n f) (W : Wr h h' a sl v) (q : b ≠ a) : own_Arf Z h' b ty n f := by obtain ⟨c, A, r⟩ := F; exact ⟨c, A.other W q, r⟩
theorem own_Arf.keep (F : own_Arf Z h a ty n f) (K : Keep h h' ws) (q : a ∉ ws) : own_Arf Z h' a ty n f := by obtain ⟨c, A, r⟩ := F; exact ⟨c, ⟨K.2.1 a c A.1 q, A.2⟩, r⟩
theorem own_Arf.new (A : Arr Z h a (newA k ty z) ty) (q : ¬ z < 0) : own_Arf Z h a ty z (fun _ => defaultValue ty) := ⟨_, A, sz_new _ _ _, q, fun i hi => by
  rw [sz_new] at hi
  simp [newA, hi]⟩
theorem own_Arf.set (F : own_Arf Z h a ty n f) (W : Wr h h' a sl v) : own_Arf Z h' a ty n (fun i => if i = sl then v else f i) := by
  obtain ⟨c, A, S, N, H⟩ := F
  have hsl : sl < c.slots.size := by
    obtain ⟨c2, e1, -, e3, -⟩ := W
    cases A.1.symm.trans e1
    exact e3
  refine ⟨_, A.same W, by rw [sz_set]; exact S, N, fun i hi => ?_⟩
  rw [sz_set] at hi
  by_cases e : i = sl
  · subst e
    simp [Cell.setSlot, hi]
  · simp only [Cell.setSlot, if_neg e]
    rw [Array.getElem?_setIfInBounds_ne (Ne.symm e)]
    exact H i hi
theorem own_Arf.congr (F : own_Arf Z h a ty n f) (q : ∀ i, i < n.toNatClampNeg → f i = g i) : own_Arf Z h a ty n g := by
  obtain ⟨c, A, S, N, H⟩ := F
  exact ⟨c, A, S, N, fun i hi => by rw [← q i (by rw [← S]; exact hi)]; exact H i hi⟩
theorem own_Arf.at (F : own_Arf Z h a ty n f) {j : Int32} (q : ¬ j < 0 ∧ j < n) : ∃ c : Cell, Arr Z h a c ty ∧ ¬ (j < 0 ∨ c.slots.size ≤ j.toNatClampNeg) ∧ c.slots[j.toNatClampNeg]? = some (f j.toNatClampNeg) := by
  obtain ⟨c, A, S, N, H⟩ := F
  have hin := inb_of S q
  exact ⟨c, A, hin, H _ (Nat.lt_of_not_le fun y => hin (Or.inr y))⟩
theorem own_Arf.nn (F : own_Arf Z h a ty n f) : ¬ n < 0 := by obtain ⟨c, A, S, N, H⟩ := F; exact N
/-- an array of objects of the class C -/
def own_Ovr (Z : State) (h : Heap) (a : Addr) (C : String) : Prop := ∃ (c : Cell) (ty : FieldType), Arr Z h a c ty ∧ Ovr Z c.cls C
theorem own_Ovr.wr {C : String} (W : Wr h h' b sl v) (F : own_Ovr Z h a C) : own_Ovr Z h' a C := by
  obtain ⟨c, ty, A, O⟩ := F
  by_cases e : a = b
  · subst e; exact ⟨_, ty, A.same W, O⟩
  · exact ⟨c, ty, A.other W e, O⟩
theorem own_Ovr.ext {C : String} (F : own_Ovr Z h a C) (E : Ext h h') : own_Ovr Z h' a C := by obtain ⟨c, ty, A, O⟩ := F; exact ⟨c, ty, A.ext E, O⟩
theorem own_Ovr.sto {C : String} {y : Addr} (F : own_Ovr Z h a C) (I : Exa Z h y C) : Sto Z h a (.ref y) := by obtain ⟨c, ty, A, O⟩ := F; exact Sto.of A O (Ins.self I)
theorem own_selp {s : State} {a0 args : Array Value} {y : MethodName} {n : Nat} (hZ : Z.Warmed39 s.vm) (wi : (Cond.instantiable y.cls n).before a0 Z = true) (wn : (Cond.instanceMethod y).before a0 Z = true) (wp : (Cond.privateMethod y).before a0 Z = true) (hy : y.cls ≠ "java/lang/invoke/MethodHandle" ∧ y.cls ≠ "java/lang/invoke/VarHandle") : (Cond.selects y.cls y y).before args s = true := by
  obtain ⟨c2, k2, i1, i2, -, i4, -⟩ := Cond.instantiable_spec (mvT hZ wi : (Cond.instantiable y.cls n).before args s = true)
  simp only [Bool.or_eq_false_iff] at i4
  exact selects_self_of_private i1 i2 i4.1 (Cond.privateMethod_at (mvP hZ wp (args := args))) (mvT hZ wn) hy
theorem own_sta_keep {C n d : String} {w : Value} (F : Sta Z h C n d w) (K : Keep h h' []) : Sta Z h' C n d w := by
  obtain ⟨cf, i, k, f, st, cell, h1, h2, h3, h4, h5, h6⟩ := F
  exact ⟨cf, i, k, f, st, cell, h1, h2, h3, h4, K.2.1 _ _ h5 nin0, h6⟩
theorem own_ofNat_int {m : Nat} (h : m < 2 ^ 31) : (Int32.ofNat m).toInt = m := Int32.toInt_ofNat_of_lt h
theorem own_tn {m : Nat} (h : m < 2 ^ 31) : (Int32.ofNat m).toNatClampNeg = m := by
  show (Int32.ofNat m).toInt.toNat = m
  rw [own_ofNat_int h]; omega
theorem own_nn {m : Nat} (h : m < 2 ^ 31) : ¬ Int32.ofNat m < 0 := by
  rw [Int32.lt_iff_toInt_lt, own_ofNat_int h]; show ¬ (m : Int) < 0; omega
theorem own_ltN {i m : Nat} (h : i < m) (hm : m < 2 ^ 31) : Int32.ofNat i < Int32.ofNat m := by
  rw [Int32.lt_iff_toInt_lt, own_ofNat_int hm, own_ofNat_int (by omega)]; omega
theorem own_in {i m : Nat} (h : i < m) (hm : m < 2 ^ 31) : ¬ Int32.ofNat i < 0 ∧ Int32.ofNat i < Int32.ofNat m := ⟨own_nn (by omega), own_ltN h hm⟩
theorem own_injN {i m : Nat} (hi : i < 2 ^ 31) (hm : m < 2 ^ 31) (e : Int32.ofNat i = Int32.ofNat m) : i = m := by
  have := congrArg Int32.toInt e
  rw [own_ofNat_int hi, own_ofNat_int hm] at this; omega
theorem own_Arf.arv (F : own_Arf Z h a ty n f) (hf : ∀ i, i < n.toNatClampNeg → fits ty (f i) = true) (d : Value) : ∃ k, Arv Z h a k ty n ((List.range n.toNatClampNeg).map f) d := by
  obtain ⟨c, A, S, N, H⟩ := F
  have hg : ∀ i, i < n.toNatClampNeg → ((List.range n.toNatClampNeg).map f).getD i d = f i := fun i hi => by
    simp [List.getD, hi]
  refine ⟨c.cls, c, A, rfl, S, N, fun i hi => ?_, fun i hi => ?_⟩
  · rw [hg i (by rw [← S]; exact hi)]; exact H i hi
  · rw [hg i (by rw [← S]; exact hi)]; exact hf i (by rw [← S]; exact hi)
theorem own_Arf.of {vs : List Value} {d : Value} (F : Arv Z h a k ty n vs d) : own_Arf Z h a ty n (fun i => vs.getD i d) := by
  obtain ⟨c, A, -, S, N, H, -⟩ := F
  exact ⟨c, A, S, N, H⟩
end Arf
end Jvm.RoadKit
namespace Jvm.Pilot.@@N@@
open Jvm Jvm.ClassFile Sem Op Lib Jvm.Free Jvm.Stand Jvm.LawKit Jvm.RoadKit Bundle Jvm.Pilot.@@N@@.Jvm.D
def own_h (x k : Int32) : Int64 := ((x.toInt64 <<< ((32 : Int32) &&& 0x3f).toInt64) ||| ((k + (1 : Int32)).toInt64))
def own_code (c : Int32) (i : Nat) : Int32 := ((c * (((2 : Int32) * (Int32.ofNat i)) + (1 : Int32))) &&& (-32 : Int32)) ||| (Int32.ofNat i)
def own_sl (c : Int32) (i t : Nat) : Value := if t < i then .long (own_h (own_code c t) (Int32.ofNat t)) else .long 0
theorem own_m2 (s : Nat) : (2 : Int32) * Int32.ofNat s = Int32.ofNat (2 * s) := by rw [Int32.ofNat_mul]; rfl
theorem own_a1 (s : Nat) : Int32.ofNat s + (1 : Int32) = Int32.ofNat (s + 1) := by rw [Int32.ofNat_add]; rfl
theorem own_hval {x : Int32} {k : Nat} (hk : k < 100) : ((own_h x (Int32.ofNat k)).toInt - (x.toInt * 4294967296 + (k + 1))) % 18446744073709551616 = 0 := by
  unfold own_h
  have h1 := c_lshl x.toInt64 32 32 (by decide)
  have h2 := c_i2l x
  have h3 : ((Int32.ofNat k + (1 : Int32)).toInt64).toInt = k + 1 := by rw [own_a1, c_i2l, own_ofNat_int (by omega)]; omega
  have h5 := rng64 (x.toInt64 <<< ((32 : Int32) &&& 0x3f).toInt64)
  have h4 := c_orL (x.toInt64 <<< ((32 : Int32) &&& 0x3f).toInt64) ((Int32.ofNat k + (1 : Int32)).toInt64) 32 (by decide) 4294967296 rfl (by omega) (by omega) (by omega)
  omega
theorem own_hne {x : Int32} {k : Nat} (hk : k < 100) : ¬ own_h x (Int32.ofNat k) = 0 := fun e => by
  have h := own_hval (x := x) hk
  rw [e] at h
  have : (0 : Int64).toInt = 0 := rfl
  omega
theorem own_hhi {x : Int32} {k : Nat} (hk : k < 100) : (((own_h x (Int32.ofNat k)).toUInt64 >>> ((32 : Int32) &&& 0x3f).toInt64.toUInt64).toInt64).toInt32 = x := by
  apply Int32.toInt_inj.mp
  have h := own_hval (x := x) hk
  have h1 := c_lushr (own_h x (Int32.ofNat k)) 32 32 (by decide) (by decide)
  have h2 := c_l2i (((own_h x (Int32.ofNat k)).toUInt64 >>> ((32 : Int32) &&& 0x3f).toInt64.toUInt64).toInt64)
  have h3 := rng32 ((((own_h x (Int32.ofNat k)).toUInt64 >>> ((32 : Int32) &&& 0x3f).toInt64.toUInt64).toInt64).toInt32)
  have h4 := rng32 x
  have h5 := rng64 (own_h x (Int32.ofNat k))
  omega
theorem own_low (z : Int32) {i : Nat} (hi : i < 32) : ((z &&& (-32 : Int32)) ||| (Int32.ofNat i)) &&& (31 : Int32) = Int32.ofNat i := by
  apply Int32.toInt_inj.mp
  have h0 : (z &&& (-32 : Int32)) &&& (31 : Int32) = 0 := by rw [Int32.and_assoc]; show z &&& 0 = 0; exact Int32.and_zero
  have h1 := c_mask (z &&& (-32 : Int32)) 31 5 (by decide) (by decide)
  rw [h0] at h1
  have h2 : (0 : Int32).toInt = 0 := rfl
  have e := own_ofNat_int (m := i) (by omega)
  have h3 := c_or (z &&& (-32 : Int32)) (Int32.ofNat i) 5 (by decide) 32 rfl (by omega) (by omega) (by omega)
  have h4 := c_mask ((z &&& (-32 : Int32)) ||| (Int32.ofNat i)) 31 5 (by decide) (by decide)
  omega
theorem own_small {w : Int32} {N : Nat} (h0 : 0 ≤ w.toInt) (h1 : w.toInt < N) : ∃ n : Nat, n < N ∧ w = Int32.ofNat n := by
  refine ⟨w.toInt.toNat, by omega, ?_⟩
  apply Int32.toInt_inj.mp
  have : w.toInt < 2147483648 := w.toInt_lt
  rw [Int32.toInt_ofNat_of_lt (by show w.toInt.toNat < 2 ^ 31; omega)]
  omega
theorem own_9 (x : Int32) : ∃ n : Nat, n < 9 ∧ (x &&& (2147483647 : Int32)) % (9 : Int32) = Int32.ofNat n := by
  have h := c_mask x 2147483647 31 (by decide) (by decide)
  have h2 := (c_irem (x &&& 2147483647) 9 9 (by decide)).1 (by omega)
  exact own_small (by omega) (by omega)
theorem own_sl_next {c : Int32} {i : Nat} (hi : i < 2 ^ 31) (t : Nat) : (if t = (Int32.ofNat i).toNatClampNeg then .long (own_h (own_code c i) (Int32.ofNat i)) else own_sl c i t) = own_sl c (i + 1) t := by
  rw [own_tn hi]
  by_cases e : t = i
  · subst e; rw [if_pos rfl]; unfold own_sl; rw [if_pos (by omega)]
  · rw [if_neg e]; unfold own_sl
    by_cases q : t < i
    · rw [if_pos q, if_pos (by omega)]
    · rw [if_neg q, if_neg (by omega)]
def own_mid (g : Nat → Int64) (i t : Nat) : Value := if t < i ∧ t < 9 then .long (g t) else .long 0
theorem own_mid_next {g : Nat → Int64} {i : Nat} (hi : i < 9) (t : Nat) : (if t = (Int32.ofNat i).toNatClampNeg then .long (g i) else own_mid g i t) = own_mid g (i + 1) t := by
  rw [own_tn (by omega)]
  by_cases e : t = i
  · subst e; rw [if_pos rfl]; unfold own_mid; rw [if_pos (by omega)]
  · rw [if_neg e]; unfold own_mid
    by_cases q : t < i ∧ t < 9
    · rw [if_pos q, if_pos (by omega)]
    · rw [if_neg q, if_neg (by omega)]
theorem own_mid_skip {g : Nat → Int64} {i : Nat} (h9 : ¬ i < 9) (t : Nat) : own_mid g i t = own_mid g (i + 1) t := by
  unfold own_mid
  by_cases q : t < i ∧ t < 9
  · rw [if_pos q, if_pos (by omega)]
  · rw [if_neg q, if_neg (by omega)]
theorem own_lw0 {x : Int64} (h : ¬ x = 0) : ¬ lcmpW x (0 : Int64) = 0 := fun q => h ((lw_eq x 0).mp q)
theorem d1_0 : decode prog_159_method_1_code 0 = .ok (.aload_n 0, 1) := by decide +kernel
theorem d1_1 : decode prog_159_method_1_code 1 = .ok (.invokespecial 1, 3) := by decide +kernel
theorem d1_4 : decode prog_159_method_1_code 4 = .ok (.aload_n 0, 1) := by decide +kernel
theorem d1_5 : decode prog_159_method_1_code 5 = .ok (.bipush 16, 2) := by decide +kernel
theorem d1_7 : decode prog_159_method_1_code 7 = .ok (.newarray .long, 2) := by decide +kernel
theorem d1_9 : decode prog_159_method_1_code 9 = .ok (.putfield 9, 3) := by decide +kernel
theorem d1_12 : decode prog_159_method_1_code 12 = .ok (.return_, 1) := by decide +kernel
theorem own_pn0 : plainName "com/example/bivista/bivista/rows/HashSlots" = true := by first | (simp [plainName, overriddenIn]; done) | decide +kernel
theorem ef_rmI (m : MethodId) (x0 : Addr) : entryFrame m #[(.ref x0)] 1 = mkF m 0 #[.val (.ref x0)] [] := by first | (simp [entryFrame, mkF, argsToLocals, Value.category]; done) | rfl
def Q_rmI (Z : State) (r0 : Addr) (h0 : Heap) (n0 : Nat) (v : Option Value) (h : Heap) (L : List Loc) : Prop := v = none ∧ Fr n0 L ∧ Keep h0 h [r0] ∧ Fld Z h r0 "com/example/bivista/bivista/rows/HashSlots" "size" "I" (.int (0 : Int32)) ∧ ∃ b, n0 ≤ b ∧ r0 ≠ b ∧ Fld Z h r0 "com/example/bivista/bivista/rows/HashSlots" "slots" "[J" (.ref b) ∧ own_Arf Z h b .long (16 : Int32) (fun _ => .long 0)
set_option maxRecDepth 65536 in
set_option maxHeartbeats 40000000 in
theorem rmI (l : Launch) (Z : State) (a0 : Array Value) (hw : ∀ d ∈ tables_1, d.before a0 Z = true) (ws : List Jvm.Cond) (r0 : Addr) (h0 : Heap) (n0 : Nat) (Z0 : n0 ≤ h0.size) (E_r0 : Exa Z h0 r0 "com/example/bivista/bivista/rows/HashSlots") (F_size_r0 : Fld Z h0 r0 "com/example/bivista/bivista/rows/HashSlots" "size" "I" (.int (0 : Int32))) (F_slots_r0 : Fld Z h0 r0 "com/example/bivista/bivista/rows/HashSlots" "slots" "[J" .null) (g_r0 : n0 ≤ r0) :
    MetFree l (⟨"com/example/bivista/bivista/rows/HashSlots", "<init>", "()V"⟩ : MethodName) (head1 (Jvm.Cond.code (⟨"com/example/bivista/bivista/rows/HashSlots", "<init>", "()V"⟩ : MethodName) prog_159_method_1_code 1 none :: ws) ({ frames := 1, cells := 1, slots := 16, locals := 12 } : Room)) (fun a U => a = #[(.ref r0)] ∧ Z.Warmed39 U.vm ∧ U.heap = h0) (fun _ _ _ _ _ => True) (fun _ U o U' => ∃ v L, o = .returned v ∧ Q_rmI Z r0 h0 n0 v U'.heap L ∧ FrameEnd U o U' L ({ frames := 1, cells := 1, slots := 16, locals := 12 } : Room).cells ({ frames := 1, cells := 1, slots := 16, locals := 12 } : Room).slots) := by
  refine MetFree.of_bodySF (plainFor_of_name own_pn0) hisR ?_
  intro p e s m args below meth c s₁ Bd hml0 hP hK
  obtain ⟨rfl, hZ, hh⟩ := hP
  have hx := Bd.exec
  have hby := Bd.bytes
  have hml : c.maxLocals = 1 := hml0
  have hown : s.vm.findClass "com/example/bivista/bivista/rows/HashSlots" = some m.cls := findClass_of_methodNamed Bd.named
  have hnm := (name_of_methodNamed Bd.named Bd.method).1
  have X0 : Stand p l e ({ frames := 1, cells := 1, slots := 16, locals := 12 } : Room) s m #[(.ref r0)] below meth c s₁ [] 0 0 := Stand.of_body Bd
  have e0 : s₁.heap = h0 := by rw [← hh, Bd.state]; rfl
  show own_Go p e below (s₁.setTop (entryFrame m #[(.ref r0)] 1)) (fun t o => ∃ v L, o = .returned v ∧ Q_rmI Z r0 h0 n0 v t.heap L ∧ FrameEnd s o t L ({ frames := 1, cells := 1, slots := 16, locals := 12 } : Room).cells ({ frames := 1, cells := 1, slots := 16, locals := 12 } : Room).slots)
  refine own_by (B := s₁.setTop (mkF m 0 #[.val (.ref r0)] [])) (fun t k => castTop (ef_rmI m r0) k) ?_
  have Nf := Fr.nil n0
  have Zs := Z0
  have Kp := Keep.refl h0 [r0]
  refine own_by (B := s₁.setTop (mkF m 1 #[.val (.ref r0)] [(.ref r0)])) (fun t k => XS.aloadN X0.here hx rfl (hb hby d1_0) rfl rfl k) ?_
  obtain ⟨T1, X1, e1, st1⟩ := initO X0 hx hZ hown (hw _ (List.mem_of_getElem? (i := 7) rfl)) (hw _ (List.mem_of_getElem? (i := 8) rfl)) (hw _ (List.mem_of_getElem? (i := 9) rfl)) e0 (g := (mkF m 1 #[.val (.ref r0)] [(.ref r0)])) rfl (by rw [hml]; rfl) rfl (hb hby d1_1) (by decide) (W := 0) (by show 2 * 0 + _ ≤ _; exact Nat.le_of_eq rfl) (by decide)
  refine own_by (B := T1.setTop (mkF m 4 #[.val (.ref r0)] [])) st1 ?_
  refine own_by (B := T1.setTop (mkF m 5 #[.val (.ref r0)] [(.ref r0)])) (fun t k => XS.aloadN X1.here hx rfl (hb hby d1_4) rfl rfl k) ?_
  refine own_by (B := T1.setTop (mkF m 7 #[.val (.ref r0)] [(.int (16 : Int32)), (.ref r0)])) (fun t k => XS.bipush X1.here hx rfl (hb hby d1_5) k) ?_
  obtain ⟨T2, h2, k2, X2, e2, E2, A2, st2⟩ := newP X1 hx hZ (hw _ (List.mem_of_getElem? (i := 10) rfl)) e1 (g := (mkF m 7 #[.val (.ref r0)] [(.int (16 : Int32)), (.ref r0)])) rfl (hb hby d1_7) rfl (by decide) (cap := 16) (by decide) (by decide) (by decide) (by decide)
  obtain ⟨b2, gq2⟩ : ∃ z, z = h0.size := ⟨_, rfl⟩
  rw [← gq2] at A2 st2
  have ne_r0_b2 : r0 ≠ b2 := Nat.ne_of_lt (Nat.lt_of_lt_of_le E_r0.lt (Nat.le_of_eq gq2.symm))
  have g_b2 : n0 ≤ b2 := Nat.le_trans Zs (Nat.le_of_eq gq2.symm)
  have sz_b2 : h0.size ≤ b2 := Nat.le_trans Kp.1 (Nat.le_of_eq gq2.symm)
  have E_r0 := E_r0.ext E2
  have F_size_r0 := F_size_r0.ext E2
  have F_slots_r0 := F_slots_r0.ext E2
  have Zs := Nat.le_trans Zs E2.1
  have Kp := Kp.ext E2
  have V_b2 := own_Arf.new A2 (by decide)
  refine own_by (B := T2.setTop (mkF m 9 #[.val (.ref r0)] [(.ref b2), (.ref r0)])) st2 ?_
  obtain ⟨T3, h3, X3, e3, W3, st3⟩ := putF X2 hx hZ hown (host := "") (Or.inl (hw _ (List.mem_of_getElem? (i := 11) rfl))) Via.refl e2 F_slots_r0 E_r0 (Or.inl (hw _ (List.mem_of_getElem? (i := 12) rfl))) (hw _ (List.mem_of_getElem? (i := 2) rfl)) (ty := (.array .long)) (by decide) rfl rfl (g := (mkF m 9 #[.val (.ref r0)] [(.ref b2), (.ref r0)])) rfl rfl (hb hby d1_9)
  have E_r0 := E_r0.wr W3
  have F_size_r0 := F_size_r0.other W3 (Or.inr (slot_ne (Or.inl (hw _ (List.mem_of_getElem? (i := 29) rfl))) (Or.inl (hw _ (List.mem_of_getElem? (i := 12) rfl))) (by decide) (t := .int) (t' := (.array .long)) (by decide) (by decide)))
  have F_slots_r0 := F_slots_r0.same W3
  have V_b2 := V_b2.other W3 (Ne.symm ne_r0_b2)
  have Zs : n0 ≤ h3.size := by rw [W3.size]; exact Zs
  have Kp := Kp.wr W3 (Or.inl (List.mem_of_getElem? (i := 0) rfl))
  have Nf := Fr.snoc X3 Nf g_r0
  refine own_by (B := T3.setTop (mkF m 12 #[.val (.ref r0)] [])) st3 ?_
  exact own_end X3 (v := none) (fun _ => rfl) (BodyLoose.notSynchronized Bd) (Q := (Q_rmI Z r0 h0 n0)) (fun fs hr => X3.returnOut hx Bd.returns (hb hby d1_12) hr) (show (Q_rmI Z r0 h0 n0) _ T3.heap _ from (by rw [e3]; exact ⟨rfl, Nf, Kp, F_size_r0, b2, g_b2, ne_r0_b2, F_slots_r0, V_b2⟩)) (by decide) (by decide)
theorem d4_0 : decode prog_159_method_9_code 0 = .ok (.aload_n 0, 1) := by decide +kernel
theorem d4_1 : decode prog_159_method_9_code 1 = .ok (.getfield 9, 3) := by decide +kernel
theorem d4_4 : decode prog_159_method_9_code 4 = .ok (.ifnonnull 7, 3) := by decide +kernel
theorem d4_11 : decode prog_159_method_9_code 11 = .ok (.ldc2_w 20, 3) := by decide +kernel
theorem d4_14 : decode prog_159_method_9_code 14 = .ok (.aload_n 0, 1) := by decide +kernel
theorem d4_15 : decode prog_159_method_9_code 15 = .ok (.getfield 9, 3) := by decide +kernel
theorem d4_18 : decode prog_159_method_9_code 18 = .ok (.arraylength, 1) := by decide +kernel
theorem d4_19 : decode prog_159_method_9_code 19 = .ok (.i2l, 1) := by decide +kernel
theorem d4_20 : decode prog_159_method_9_code 20 = .ok (.lmul, 1) := by decide +kernel
theorem d4_21 : decode prog_159_method_9_code 21 = .ok (.lreturn, 1) := by decide +kernel
theorem ef_rmB16 (m : MethodId) (x0 : Addr) : entryFrame m #[(.ref x0)] 1 = mkF m 0 #[.val (.ref x0)] [] := by first | (simp [entryFrame, mkF, argsToLocals, Value.category]; done) | rfl
def Q_rmB16 (Z : State) (r0 b : Addr) (f : Nat → Value) (h0 : Heap) (n0 : Nat) (v : Option Value) (h : Heap) (L : List Loc) : Prop := v = some (.long (128 : Int64)) ∧ Fr n0 L ∧ h = h0
set_option maxRecDepth 65536 in
set_option maxHeartbeats 40000000 in
theorem rmB16 (l : Launch) (Z : State) (a0 : Array Value) (hw : ∀ d ∈ tables_1, d.before a0 Z = true) (ws : List Jvm.Cond) (r0 b : Addr) (f : Nat → Value) (h0 : Heap) (n0 : Nat) (Z0 : n0 ≤ h0.size) (F_slots_r0 : Fld Z h0 r0 "com/example/bivista/bivista/rows/HashSlots" "slots" "[J" (.ref b)) (V_b : own_Arf Z h0 b .long (16 : Int32) f) :
    MetFree l (⟨"com/example/bivista/bivista/rows/HashSlots", "bytes", "()J"⟩ : MethodName) (head1 (Jvm.Cond.code (⟨"com/example/bivista/bivista/rows/HashSlots", "bytes", "()J"⟩ : MethodName) prog_159_method_9_code 1 (some .long) :: ws) ({ frames := 0, cells := 0, slots := 0, locals := 0 } : Room)) (fun a U => a = #[(.ref r0)] ∧ Z.Warmed39 U.vm ∧ U.heap = h0) (fun _ _ _ _ _ => True) (fun _ U o U' => ∃ v L, o = .returned v ∧ Q_rmB16 Z r0 b f h0 n0 v U'.heap L ∧ FrameEnd U o U' L ({ frames := 0, cells := 0, slots := 0, locals := 0 } : Room).cells ({ frames := 0, cells := 0, slots := 0, locals := 0 } : Room).slots) := by
  refine MetFree.of_bodySF (plainFor_of_name own_pn0) hisR ?_
  intro p e s m args below meth c s₁ Bd hml0 hP hK
  obtain ⟨rfl, hZ, hh⟩ := hP
  have hx := Bd.exec
  have hby := Bd.bytes
  have hml : c.maxLocals = 1 := hml0
  have hown : s.vm.findClass "com/example/bivista/bivista/rows/HashSlots" = some m.cls := findClass_of_methodNamed Bd.named
  have hnm := (name_of_methodNamed Bd.named Bd.method).1
  have X0 : Stand p l e ({ frames := 0, cells := 0, slots := 0, locals := 0 } : Room) s m #[(.ref r0)] below meth c s₁ [] 0 0 := Stand.of_body Bd
  have e0 : s₁.heap = h0 := by rw [← hh, Bd.state]; rfl
  show own_Go p e below (s₁.setTop (entryFrame m #[(.ref r0)] 1)) (fun t o => ∃ v L, o = .returned v ∧ Q_rmB16 Z r0 b f h0 n0 v t.heap L ∧ FrameEnd s o t L ({ frames := 0, cells := 0, slots := 0, locals := 0 } : Room).cells ({ frames := 0, cells := 0, slots := 0, locals := 0 } : Room).slots)
  refine own_by (B := s₁.setTop (mkF m 0 #[.val (.ref r0)] [])) (fun t k => castTop (ef_rmB16 m r0) k) ?_
  have Nf := Fr.nil n0
  have Zs := Z0
  refine own_by (B := s₁.setTop (mkF m 1 #[.val (.ref r0)] [(.ref r0)])) (fun t k => XS.aloadN X0.here hx rfl (hb hby d4_0) rfl rfl k) ?_
  obtain ⟨T1, X1, e1, st1⟩ := getF X0 hx hZ hown (host := "") (Or.inl (hw _ (List.mem_of_getElem? (i := 11) rfl))) Via.refl e0 F_slots_r0 (g := (mkF m 1 #[.val (.ref r0)] [(.ref r0)])) rfl rfl (hb hby d4_1)
  refine own_by (B := T1.setTop (mkF m 4 #[.val (.ref r0)] [(.ref b)])) st1 ?_
  refine own_by (B := T1.setTop (mkF m 11 #[.val (.ref r0)] [])) (fun t k => XS.ifnonnullYes X1.here hx rfl (pc0 := 4) (pc' := 11) rfl (hb hby d4_4) rfl (by decide) (by decide) k) ?_
  refine own_by (B := T1.setTop (mkF m 14 #[.val (.ref r0)] [(.long (8 : Int64))])) (fun t k => X1.ldc2Long hx hown (mvT hZ (hw _ (List.mem_of_getElem? (i := 22) rfl))) (g := (mkF m 11 #[.val (.ref r0)] [])) rfl (hb hby d4_11) _ k) ?_
  refine own_by (B := T1.setTop (mkF m 15 #[.val (.ref r0)] [(.ref r0), (.long (8 : Int64))])) (fun t k => XS.aloadN X1.here hx rfl (hb hby d4_14) rfl rfl k) ?_
  obtain ⟨T2, X2, e2, st2⟩ := getF X1 hx hZ hown (host := "") (Or.inl (hw _ (List.mem_of_getElem? (i := 11) rfl))) Via.refl e1 F_slots_r0 (g := (mkF m 15 #[.val (.ref r0)] [(.ref r0), (.long (8 : Int64))])) rfl rfl (hb hby d4_15)
  refine own_by (B := T2.setTop (mkF m 18 #[.val (.ref r0)] [(.ref b), (.long (8 : Int64))])) st2 ?_
  obtain ⟨cl3, Ar3, Sz3, Ng3, -⟩ := id V_b
  refine own_by (B := T2.setTop (mkF m 19 #[.val (.ref r0)] [(.int (16 : Int32)), (.long (8 : Int64))])) (fun t k => X2.arraylength hx (by rw [e2]; exact Ar3.1) (State.isArrayOf_alike hZ.alike Ar3.2.1) (g := (mkF m 18 #[.val (.ref r0)] [(.ref b), (.long (8 : Int64))])) rfl rfl (hb hby d4_18) _ (by rw [len_of Sz3 Ng3]; exact k)) ?_
  refine own_by (B := T2.setTop (mkF m 20 #[.val (.ref r0)] [(.long (16 : Int64)), (.long (8 : Int64))])) (fun t k => XS.i2l X2.here hx rfl (hb hby d4_19) rfl k) ?_
  refine own_by (B := T2.setTop (mkF m 21 #[.val (.ref r0)] [(.long (128 : Int64))])) (fun t k => XS.lmul X2.here hx rfl (hb hby d4_20) rfl k) ?_
  exact own_end X2 (v := some (.long (128 : Int64))) (fun h => by rw [Bd.returns] at h; cases h) (BodyLoose.notSynchronized Bd) (Q := (Q_rmB16 Z r0 b f h0 n0)) (fun fs hr => retOut X2 hx (t := .long) Bd.returns rfl (Or.inr (Or.inl ⟨rfl, rfl, _, rfl⟩)) (hb hby d4_21) hr) (show (Q_rmB16 Z r0 b f h0 n0) _ T2.heap _ from (by rw [e2]; exact ⟨rfl, Nf, rfl⟩)) (by decide) (by decide)
theorem ef_rmB32 (m : MethodId) (x0 : Addr) : entryFrame m #[(.ref x0)] 1 = mkF m 0 #[.val (.ref x0)] [] := by first | (simp [entryFrame, mkF, argsToLocals, Value.category]; done) | rfl
def Q_rmB32 (Z : State) (r0 b : Addr) (f : Nat → Value) (h0 : Heap) (n0 : Nat) (v : Option Value) (h : Heap) (L : List Loc) : Prop := v = some (.long (256 : Int64)) ∧ Fr n0 L ∧ h = h0
set_option maxRecDepth 65536 in
set_option maxHeartbeats 40000000 in
theorem rmB32 (l : Launch) (Z : State) (a0 : Array Value) (hw : ∀ d ∈ tables_1, d.before a0 Z = true) (ws : List Jvm.Cond) (r0 b : Addr) (f : Nat → Value) (h0 : Heap) (n0 : Nat) (Z0 : n0 ≤ h0.size) (F_slots_r0 : Fld Z h0 r0 "com/example/bivista/bivista/rows/HashSlots" "slots" "[J" (.ref b)) (V_b : own_Arf Z h0 b .long (32 : Int32) f) :
    MetFree l (⟨"com/example/bivista/bivista/rows/HashSlots", "bytes", "()J"⟩ : MethodName) (head1 (Jvm.Cond.code (⟨"com/example/bivista/bivista/rows/HashSlots", "bytes", "()J"⟩ : MethodName) prog_159_method_9_code 1 (some .long) :: ws) ({ frames := 0, cells := 0, slots := 0, locals := 0 } : Room)) (fun a U => a = #[(.ref r0)] ∧ Z.Warmed39 U.vm ∧ U.heap = h0) (fun _ _ _ _ _ => True) (fun _ U o U' => ∃ v L, o = .returned v ∧ Q_rmB32 Z r0 b f h0 n0 v U'.heap L ∧ FrameEnd U o U' L ({ frames := 0, cells := 0, slots := 0, locals := 0 } : Room).cells ({ frames := 0, cells := 0, slots := 0, locals := 0 } : Room).slots) := by
  refine MetFree.of_bodySF (plainFor_of_name own_pn0) hisR ?_
  intro p e s m args below meth c s₁ Bd hml0 hP hK
  obtain ⟨rfl, hZ, hh⟩ := hP
  have hx := Bd.exec
  have hby := Bd.bytes
  have hml : c.maxLocals = 1 := hml0
  have hown : s.vm.findClass "com/example/bivista/bivista/rows/HashSlots" = some m.cls := findClass_of_methodNamed Bd.named
  have hnm := (name_of_methodNamed Bd.named Bd.method).1
  have X0 : Stand p l e ({ frames := 0, cells := 0, slots := 0, locals := 0 } : Room) s m #[(.ref r0)] below meth c s₁ [] 0 0 := Stand.of_body Bd
  have e0 : s₁.heap = h0 := by rw [← hh, Bd.state]; rfl
  show own_Go p e below (s₁.setTop (entryFrame m #[(.ref r0)] 1)) (fun t o => ∃ v L, o = .returned v ∧ Q_rmB32 Z r0 b f h0 n0 v t.heap L ∧ FrameEnd s o t L ({ frames := 0, cells := 0, slots := 0, locals := 0 } : Room).cells ({ frames := 0, cells := 0, slots := 0, locals := 0 } : Room).slots)
  refine own_by (B := s₁.setTop (mkF m 0 #[.val (.ref r0)] [])) (fun t k => castTop (ef_rmB32 m r0) k) ?_
  have Nf := Fr.nil n0
  have Zs := Z0
  refine own_by (B := s₁.setTop (mkF m 1 #[.val (.ref r0)] [(.ref r0)])) (fun t k => XS.aloadN X0.here hx rfl (hb hby d4_0) rfl rfl k) ?_
  obtain ⟨T1, X1, e1, st1⟩ := getF X0 hx hZ hown (host := "") (Or.inl (hw _ (List.mem_of_getElem? (i := 11) rfl))) Via.refl e0 F_slots_r0 (g := (mkF m 1 #[.val (.ref r0)] [(.ref r0)])) rfl rfl (hb hby d4_1)
  refine own_by (B := T1.setTop (mkF m 4 #[.val (.ref r0)] [(.ref b)])) st1 ?_
  refine own_by (B := T1.setTop (mkF m 11 #[.val (.ref r0)] [])) (fun t k => XS.ifnonnullYes X1.here hx rfl (pc0 := 4) (pc' := 11) rfl (hb hby d4_4) rfl (by decide) (by decide) k) ?_
  refine own_by (B := T1.setTop (mkF m 14 #[.val (.ref r0)] [(.long (8 : Int64))])) (fun t k => X1.ldc2Long hx hown (mvT hZ (hw _ (List.mem_of_getElem? (i := 22) rfl))) (g := (mkF m 11 #[.val (.ref r0)] [])) rfl (hb hby d4_11) _ k) ?_
  refine own_by (B := T1.setTop (mkF m 15 #[.val (.ref r0)] [(.ref r0), (.long (8 : Int64))])) (fun t k => XS.aloadN X1.here hx rfl (hb hby d4_14) rfl rfl k) ?_
  obtain ⟨T2, X2, e2, st2⟩ := getF X1 hx hZ hown (host := "") (Or.inl (hw _ (List.mem_of_getElem? (i := 11) rfl))) Via.refl e1 F_slots_r0 (g := (mkF m 15 #[.val (.ref r0)] [(.ref r0), (.long (8 : Int64))])) rfl rfl (hb hby d4_15)
  refine own_by (B := T2.setTop (mkF m 18 #[.val (.ref r0)] [(.ref b), (.long (8 : Int64))])) st2 ?_
  obtain ⟨cl3, Ar3, Sz3, Ng3, -⟩ := id V_b
  refine own_by (B := T2.setTop (mkF m 19 #[.val (.ref r0)] [(.int (32 : Int32)), (.long (8 : Int64))])) (fun t k => X2.arraylength hx (by rw [e2]; exact Ar3.1) (State.isArrayOf_alike hZ.alike Ar3.2.1) (g := (mkF m 18 #[.val (.ref r0)] [(.ref b), (.long (8 : Int64))])) rfl rfl (hb hby d4_18) _ (by rw [len_of Sz3 Ng3]; exact k)) ?_
  refine own_by (B := T2.setTop (mkF m 20 #[.val (.ref r0)] [(.long (32 : Int64)), (.long (8 : Int64))])) (fun t k => XS.i2l X2.here hx rfl (hb hby d4_19) rfl k) ?_
  refine own_by (B := T2.setTop (mkF m 21 #[.val (.ref r0)] [(.long (256 : Int64))])) (fun t k => XS.lmul X2.here hx rfl (hb hby d4_20) rfl k) ?_
  exact own_end X2 (v := some (.long (256 : Int64))) (fun h => by rw [Bd.returns] at h; cases h) (BodyLoose.notSynchronized Bd) (Q := (Q_rmB32 Z r0 b f h0 n0)) (fun fs hr => retOut X2 hx (t := .long) Bd.returns rfl (Or.inr (Or.inl ⟨rfl, rfl, _, rfl⟩)) (hb hby d4_21) hr) (show (Q_rmB32 Z r0 b f h0 n0) _ T2.heap _ from (by rw [e2]; exact ⟨rfl, Nf, rfl⟩)) (by decide) (by decide)
theorem d5_0 : decode prog_159_method_8_code 0 = .ok (.iconst 2, 1) := by decide +kernel
theorem d5_1 : decode prog_159_method_8_code 1 = .ok (.aload_n 0, 1) := by decide +kernel
theorem d5_2 : decode prog_159_method_8_code 2 = .ok (.getfield 13, 3) := by decide +kernel
theorem d5_5 : decode prog_159_method_8_code 5 = .ok (.iconst 1, 1) := by decide +kernel
theorem d5_6 : decode prog_159_method_8_code 6 = .ok (.iadd, 1) := by decide +kernel
theorem d5_7 : decode prog_159_method_8_code 7 = .ok (.imul, 1) := by decide +kernel
theorem d5_8 : decode prog_159_method_8_code 8 = .ok (.aload_n 0, 1) := by decide +kernel
theorem d5_9 : decode prog_159_method_8_code 9 = .ok (.getfield 9, 3) := by decide +kernel
theorem d5_12 : decode prog_159_method_8_code 12 = .ok (.arraylength, 1) := by decide +kernel
theorem d5_13 : decode prog_159_method_8_code 13 = .ok (.if_icmp .le 16, 3) := by decide +kernel
theorem d5_29 : decode prog_159_method_8_code 29 = .ok (.lconst 0, 1) := by decide +kernel
theorem d5_30 : decode prog_159_method_8_code 30 = .ok (.lreturn, 1) := by decide +kernel
theorem ef_rmT0 (m : MethodId) (x0 : Addr) : entryFrame m #[(.ref x0)] 1 = mkF m 0 #[.val (.ref x0)] [] := by first | (simp [entryFrame, mkF, argsToLocals, Value.category]; done) | rfl
def Q_rmT0 (Z : State) (r0 b : Addr) (s0 : Nat) (f : Nat → Value) (h0 : Heap) (n0 : Nat) (v : Option Value) (h : Heap) (L : List Loc) : Prop := v = some (.long (0 : Int64)) ∧ Fr n0 L ∧ h = h0
set_option maxRecDepth 65536 in
set_option maxHeartbeats 40000000 in
theorem rmT0 (l : Launch) (Z : State) (a0 : Array Value) (hw : ∀ d ∈ tables_1, d.before a0 Z = true) (ws : List Jvm.Cond) (r0 b : Addr) (s0 : Nat) (f : Nat → Value) (h0 : Heap) (n0 : Nat) (Z0 : n0 ≤ h0.size) (F_size_r0 : Fld Z h0 r0 "com/example/bivista/bivista/rows/HashSlots" "size" "I" (.int (Int32.ofNat s0))) (F_slots_r0 : Fld Z h0 r0 "com/example/bivista/bivista/rows/HashSlots" "slots" "[J" (.ref b)) (V_b : own_Arf Z h0 b .long (16 : Int32) f) (hs : s0 < 8) :
    MetFree l (⟨"com/example/bivista/bivista/rows/HashSlots", "bytesToAdd", "()J"⟩ : MethodName) (head1 (Jvm.Cond.code (⟨"com/example/bivista/bivista/rows/HashSlots", "bytesToAdd", "()J"⟩ : MethodName) prog_159_method_8_code 1 (some .long) :: ws) ({ frames := 0, cells := 0, slots := 0, locals := 0 } : Room)) (fun a U => a = #[(.ref r0)] ∧ Z.Warmed39 U.vm ∧ U.heap = h0) (fun _ _ _ _ _ => True) (fun _ U o U' => ∃ v L, o = .returned v ∧ Q_rmT0 Z r0 b s0 f h0 n0 v U'.heap L ∧ FrameEnd U o U' L ({ frames := 0, cells := 0, slots := 0, locals := 0 } : Room).cells ({ frames := 0, cells := 0, slots := 0, locals := 0 } : Room).slots) := by
  refine MetFree.of_bodySF (plainFor_of_name own_pn0) hisR ?_
  intro p e s m args below meth c s₁ Bd hml0 hP hK
  obtain ⟨rfl, hZ, hh⟩ := hP
  have hx := Bd.exec
  have hby := Bd.bytes
  have hml : c.maxLocals = 1 := hml0
  have hown : s.vm.findClass "com/example/bivista/bivista/rows/HashSlots" = some m.cls := findClass_of_methodNamed Bd.named
  have hnm := (name_of_methodNamed Bd.named Bd.method).1
  have X0 : Stand p l e ({ frames := 0, cells := 0, slots := 0, locals := 0 } : Room) s m #[(.ref r0)] below meth c s₁ [] 0 0 := Stand.of_body Bd
  have e0 : s₁.heap = h0 := by rw [← hh, Bd.state]; rfl
  show own_Go p e below (s₁.setTop (entryFrame m #[(.ref r0)] 1)) (fun t o => ∃ v L, o = .returned v ∧ Q_rmT0 Z r0 b s0 f h0 n0 v t.heap L ∧ FrameEnd s o t L ({ frames := 0, cells := 0, slots := 0, locals := 0 } : Room).cells ({ frames := 0, cells := 0, slots := 0, locals := 0 } : Room).slots)
  refine own_by (B := s₁.setTop (mkF m 0 #[.val (.ref r0)] [])) (fun t k => castTop (ef_rmT0 m r0) k) ?_
  have Nf := Fr.nil n0
  have Zs := Z0
  refine own_by (B := s₁.setTop (mkF m 1 #[.val (.ref r0)] [(.int (2 : Int32))])) (fun t k => XS.iconst X0.here hx rfl (hb hby d5_0) k) ?_
  refine own_by (B := s₁.setTop (mkF m 2 #[.val (.ref r0)] [(.ref r0), (.int (2 : Int32))])) (fun t k => XS.aloadN X0.here hx rfl (hb hby d5_1) rfl rfl k) ?_
  obtain ⟨T1, X1, e1, st1⟩ := getF X0 hx hZ hown (host := "") (Or.inl (hw _ (List.mem_of_getElem? (i := 28) rfl))) Via.refl e0 F_size_r0 (g := (mkF m 2 #[.val (.ref r0)] [(.ref r0), (.int (2 : Int32))])) rfl rfl (hb hby d5_2)
  refine own_by (B := T1.setTop (mkF m 5 #[.val (.ref r0)] [(.int (Int32.ofNat s0)), (.int (2 : Int32))])) st1 ?_
  refine own_by (B := T1.setTop (mkF m 6 #[.val (.ref r0)] [(.int (1 : Int32)), (.int (Int32.ofNat s0)), (.int (2 : Int32))])) (fun t k => XS.iconst X1.here hx rfl (hb hby d5_5) k) ?_
  refine own_by (B := T1.setTop (mkF m 7 #[.val (.ref r0)] [(.int ((Int32.ofNat s0) + (1 : Int32))), (.int (2 : Int32))])) (fun t k => XS.iadd X1.here hx rfl (hb hby d5_6) rfl k) ?_
  rw [show ((Int32.ofNat s0) + (1 : Int32)) = (Int32.ofNat (s0 + 1)) from own_a1 s0]
  refine own_by (B := T1.setTop (mkF m 8 #[.val (.ref r0)] [(.int ((2 : Int32) * (Int32.ofNat (s0 + 1))))])) (fun t k => XS.imul X1.here hx rfl (hb hby d5_7) rfl k) ?_
  rw [show ((2 : Int32) * (Int32.ofNat (s0 + 1))) = (Int32.ofNat (2 * (s0 + 1))) from own_m2 (s0 + 1)]
  refine own_by (B := T1.setTop (mkF m 9 #[.val (.ref r0)] [(.ref r0), (.int (Int32.ofNat (2 * (s0 + 1))))])) (fun t k => XS.aloadN X1.here hx rfl (hb hby d5_8) rfl rfl k) ?_
  obtain ⟨T2, X2, e2, st2⟩ := getF X1 hx hZ hown (host := "") (Or.inl (hw _ (List.mem_of_getElem? (i := 11) rfl))) Via.refl e1 F_slots_r0 (g := (mkF m 9 #[.val (.ref r0)] [(.ref r0), (.int (Int32.ofNat (2 * (s0 + 1))))])) rfl rfl (hb hby d5_9)
  refine own_by (B := T2.setTop (mkF m 12 #[.val (.ref r0)] [(.ref b), (.int (Int32.ofNat (2 * (s0 + 1))))])) st2 ?_
  obtain ⟨cl3, Ar3, Sz3, Ng3, -⟩ := id V_b
  refine own_by (B := T2.setTop (mkF m 13 #[.val (.ref r0)] [(.int (16 : Int32)), (.int (Int32.ofNat (2 * (s0 + 1))))])) (fun t k => X2.arraylength hx (by rw [e2]; exact Ar3.1) (State.isArrayOf_alike hZ.alike Ar3.2.1) (g := (mkF m 12 #[.val (.ref r0)] [(.ref b), (.int (Int32.ofNat (2 * (s0 + 1))))])) rfl rfl (hb hby d5_12) _ (by rw [len_of Sz3 Ng3]; exact k)) ?_
  refine own_by (B := T2.setTop (mkF m 29 #[.val (.ref r0)] [])) (fun t k => XS.icmpYes X2.here hx rfl (pc0 := 13) (pc' := 29) rfl (hb hby d5_13) rfl (flt (fun q => absurd q (by rw [Int32.lt_iff_toInt_lt, own_ofNat_int (by omega)]; show ¬ (16 : Int) < _; omega))).2.2.2 (by decide) (by decide) k) ?_
  refine own_by (B := T2.setTop (mkF m 30 #[.val (.ref r0)] [(.long (0 : Int64))])) (fun t k => XS.lconst X2.here hx rfl (hb hby d5_29) k) ?_
  exact own_end X2 (v := some (.long (0 : Int64))) (fun h => by rw [Bd.returns] at h; cases h) (BodyLoose.notSynchronized Bd) (Q := (Q_rmT0 Z r0 b s0 f h0 n0)) (fun fs hr => retOut X2 hx (t := .long) Bd.returns rfl (Or.inr (Or.inl ⟨rfl, rfl, _, rfl⟩)) (hb hby d5_30) hr) (show (Q_rmT0 Z r0 b s0 f h0 n0) _ T2.heap _ from (by rw [e2]; exact ⟨rfl, Nf, rfl⟩)) (by decide) (by decide)
theorem d5_16 : decode prog_159_method_8_code 16 = .ok (.ldc2_w 20, 3) := by decide +kernel
theorem d5_19 : decode prog_159_method_8_code 19 = .ok (.aload_n 0, 1) := by decide +kernel
theorem d5_20 : decode prog_159_method_8_code 20 = .ok (.getfield 9, 3) := by decide +kernel
theorem d5_23 : decode prog_159_method_8_code 23 = .ok (.arraylength, 1) := by decide +kernel
theorem d5_24 : decode prog_159_method_8_code 24 = .ok (.i2l, 1) := by decide +kernel
theorem d5_25 : decode prog_159_method_8_code 25 = .ok (.lmul, 1) := by decide +kernel
theorem d5_26 : decode prog_159_method_8_code 26 = .ok (.goto 4, 3) := by decide +kernel
theorem ef_rmT1 (m : MethodId) (x0 : Addr) : entryFrame m #[(.ref x0)] 1 = mkF m 0 #[.val (.ref x0)] [] := by first | (simp [entryFrame, mkF, argsToLocals, Value.category]; done) | rfl
def Q_rmT1 (Z : State) (r0 b : Addr) (s0 : Nat) (f : Nat → Value) (h0 : Heap) (n0 : Nat) (v : Option Value) (h : Heap) (L : List Loc) : Prop := v = some (.long (128 : Int64)) ∧ Fr n0 L ∧ h = h0
set_option maxRecDepth 65536 in
set_option maxHeartbeats 40000000 in
theorem rmT1 (l : Launch) (Z : State) (a0 : Array Value) (hw : ∀ d ∈ tables_1, d.before a0 Z = true) (ws : List Jvm.Cond) (r0 b : Addr) (s0 : Nat) (f : Nat → Value) (h0 : Heap) (n0 : Nat) (Z0 : n0 ≤ h0.size) (F_size_r0 : Fld Z h0 r0 "com/example/bivista/bivista/rows/HashSlots" "size" "I" (.int (Int32.ofNat s0))) (F_slots_r0 : Fld Z h0 r0 "com/example/bivista/bivista/rows/HashSlots" "slots" "[J" (.ref b)) (V_b : own_Arf Z h0 b .long (16 : Int32) f) (hs : s0 = 8) :
    MetFree l (⟨"com/example/bivista/bivista/rows/HashSlots", "bytesToAdd", "()J"⟩ : MethodName) (head1 (Jvm.Cond.code (⟨"com/example/bivista/bivista/rows/HashSlots", "bytesToAdd", "()J"⟩ : MethodName) prog_159_method_8_code 1 (some .long) :: ws) ({ frames := 0, cells := 0, slots := 0, locals := 0 } : Room)) (fun a U => a = #[(.ref r0)] ∧ Z.Warmed39 U.vm ∧ U.heap = h0) (fun _ _ _ _ _ => True) (fun _ U o U' => ∃ v L, o = .returned v ∧ Q_rmT1 Z r0 b s0 f h0 n0 v U'.heap L ∧ FrameEnd U o U' L ({ frames := 0, cells := 0, slots := 0, locals := 0 } : Room).cells ({ frames := 0, cells := 0, slots := 0, locals := 0 } : Room).slots) := by
  refine MetFree.of_bodySF (plainFor_of_name own_pn0) hisR ?_
  intro p e s m args below meth c s₁ Bd hml0 hP hK
  obtain ⟨rfl, hZ, hh⟩ := hP
  have hx := Bd.exec
  have hby := Bd.bytes
  have hml : c.maxLocals = 1 := hml0
  have hown : s.vm.findClass "com/example/bivista/bivista/rows/HashSlots" = some m.cls := findClass_of_methodNamed Bd.named
  have hnm := (name_of_methodNamed Bd.named Bd.method).1
  have X0 : Stand p l e ({ frames := 0, cells := 0, slots := 0, locals := 0 } : Room) s m #[(.ref r0)] below meth c s₁ [] 0 0 := Stand.of_body Bd
  have e0 : s₁.heap = h0 := by rw [← hh, Bd.state]; rfl
  show own_Go p e below (s₁.setTop (entryFrame m #[(.ref r0)] 1)) (fun t o => ∃ v L, o = .returned v ∧ Q_rmT1 Z r0 b s0 f h0 n0 v t.heap L ∧ FrameEnd s o t L ({ frames := 0, cells := 0, slots := 0, locals := 0 } : Room).cells ({ frames := 0, cells := 0, slots := 0, locals := 0 } : Room).slots)
  refine own_by (B := s₁.setTop (mkF m 0 #[.val (.ref r0)] [])) (fun t k => castTop (ef_rmT1 m r0) k) ?_
  have Nf := Fr.nil n0
  have Zs := Z0
  refine own_by (B := s₁.setTop (mkF m 1 #[.val (.ref r0)] [(.int (2 : Int32))])) (fun t k => XS.iconst X0.here hx rfl (hb hby d5_0) k) ?_
  refine own_by (B := s₁.setTop (mkF m 2 #[.val (.ref r0)] [(.ref r0), (.int (2 : Int32))])) (fun t k => XS.aloadN X0.here hx rfl (hb hby d5_1) rfl rfl k) ?_
  obtain ⟨T1, X1, e1, st1⟩ := getF X0 hx hZ hown (host := "") (Or.inl (hw _ (List.mem_of_getElem? (i := 28) rfl))) Via.refl e0 F_size_r0 (g := (mkF m 2 #[.val (.ref r0)] [(.ref r0), (.int (2 : Int32))])) rfl rfl (hb hby d5_2)
  refine own_by (B := T1.setTop (mkF m 5 #[.val (.ref r0)] [(.int (Int32.ofNat s0)), (.int (2 : Int32))])) st1 ?_
  refine own_by (B := T1.setTop (mkF m 6 #[.val (.ref r0)] [(.int (1 : Int32)), (.int (Int32.ofNat s0)), (.int (2 : Int32))])) (fun t k => XS.iconst X1.here hx rfl (hb hby d5_5) k) ?_
  refine own_by (B := T1.setTop (mkF m 7 #[.val (.ref r0)] [(.int ((Int32.ofNat s0) + (1 : Int32))), (.int (2 : Int32))])) (fun t k => XS.iadd X1.here hx rfl (hb hby d5_6) rfl k) ?_
  rw [show ((Int32.ofNat s0) + (1 : Int32)) = (Int32.ofNat (s0 + 1)) from own_a1 s0]
  refine own_by (B := T1.setTop (mkF m 8 #[.val (.ref r0)] [(.int ((2 : Int32) * (Int32.ofNat (s0 + 1))))])) (fun t k => XS.imul X1.here hx rfl (hb hby d5_7) rfl k) ?_
  rw [show ((2 : Int32) * (Int32.ofNat (s0 + 1))) = (Int32.ofNat (2 * (s0 + 1))) from own_m2 (s0 + 1)]
  refine own_by (B := T1.setTop (mkF m 9 #[.val (.ref r0)] [(.ref r0), (.int (Int32.ofNat (2 * (s0 + 1))))])) (fun t k => XS.aloadN X1.here hx rfl (hb hby d5_8) rfl rfl k) ?_
  obtain ⟨T2, X2, e2, st2⟩ := getF X1 hx hZ hown (host := "") (Or.inl (hw _ (List.mem_of_getElem? (i := 11) rfl))) Via.refl e1 F_slots_r0 (g := (mkF m 9 #[.val (.ref r0)] [(.ref r0), (.int (Int32.ofNat (2 * (s0 + 1))))])) rfl rfl (hb hby d5_9)
  refine own_by (B := T2.setTop (mkF m 12 #[.val (.ref r0)] [(.ref b), (.int (Int32.ofNat (2 * (s0 + 1))))])) st2 ?_
  obtain ⟨cl3, Ar3, Sz3, Ng3, -⟩ := id V_b
  refine own_by (B := T2.setTop (mkF m 13 #[.val (.ref r0)] [(.int (16 : Int32)), (.int (Int32.ofNat (2 * (s0 + 1))))])) (fun t k => X2.arraylength hx (by rw [e2]; exact Ar3.1) (State.isArrayOf_alike hZ.alike Ar3.2.1) (g := (mkF m 12 #[.val (.ref r0)] [(.ref b), (.int (Int32.ofNat (2 * (s0 + 1))))])) rfl rfl (hb hby d5_12) _ (by rw [len_of Sz3 Ng3]; exact k)) ?_
  refine own_by (B := T2.setTop (mkF m 16 #[.val (.ref r0)] [])) (fun t k => XS.icmpNo X2.here hx rfl (hb hby d5_13) rfl (tlt (own_ltN (i := 16) (by omega) (by omega))).2.2.2 k) ?_
  refine own_by (B := T2.setTop (mkF m 19 #[.val (.ref r0)] [(.long (8 : Int64))])) (fun t k => X2.ldc2Long hx hown (mvT hZ (hw _ (List.mem_of_getElem? (i := 22) rfl))) (g := (mkF m 16 #[.val (.ref r0)] [])) rfl (hb hby d5_16) _ k) ?_
  refine own_by (B := T2.setTop (mkF m 20 #[.val (.ref r0)] [(.ref r0), (.long (8 : Int64))])) (fun t k => XS.aloadN X2.here hx rfl (hb hby d5_19) rfl rfl k) ?_
  obtain ⟨T4, X4, e4, st4⟩ := getF X2 hx hZ hown (host := "") (Or.inl (hw _ (List.mem_of_getElem? (i := 11) rfl))) Via.refl e2 F_slots_r0 (g := (mkF m 20 #[.val (.ref r0)] [(.ref r0), (.long (8 : Int64))])) rfl rfl (hb hby d5_20)
  refine own_by (B := T4.setTop (mkF m 23 #[.val (.ref r0)] [(.ref b), (.long (8 : Int64))])) st4 ?_
  obtain ⟨cl5, Ar5, Sz5, Ng5, -⟩ := id V_b
  refine own_by (B := T4.setTop (mkF m 24 #[.val (.ref r0)] [(.int (16 : Int32)), (.long (8 : Int64))])) (fun t k => X4.arraylength hx (by rw [e4]; exact Ar5.1) (State.isArrayOf_alike hZ.alike Ar5.2.1) (g := (mkF m 23 #[.val (.ref r0)] [(.ref b), (.long (8 : Int64))])) rfl rfl (hb hby d5_23) _ (by rw [len_of Sz5 Ng5]; exact k)) ?_
  refine own_by (B := T4.setTop (mkF m 25 #[.val (.ref r0)] [(.long (16 : Int64)), (.long (8 : Int64))])) (fun t k => XS.i2l X4.here hx rfl (hb hby d5_24) rfl k) ?_
  refine own_by (B := T4.setTop (mkF m 26 #[.val (.ref r0)] [(.long (128 : Int64))])) (fun t k => XS.lmul X4.here hx rfl (hb hby d5_25) rfl k) ?_
  refine own_by (B := T4.setTop (mkF m 30 #[.val (.ref r0)] [(.long (128 : Int64))])) (fun t k => XS.goto X4.here hx rfl (pc0 := 26) (pc' := 30) rfl (hb hby d5_26) (by decide) (by decide) k) ?_
  exact own_end X4 (v := some (.long (128 : Int64))) (fun h => by rw [Bd.returns] at h; cases h) (BodyLoose.notSynchronized Bd) (Q := (Q_rmT1 Z r0 b s0 f h0 n0)) (fun fs hr => retOut X4 hx (t := .long) Bd.returns rfl (Or.inr (Or.inl ⟨rfl, rfl, _, rfl⟩)) (hb hby d5_30) hr) (show (Q_rmT1 Z r0 b s0 f h0 n0) _ T4.heap _ from (by rw [e4]; exact ⟨rfl, Nf, rfl⟩)) (by decide) (by decide)
theorem d7_0 : decode prog_159_method_11_code 0 = .ok (.aload_n 0, 1) := by decide +kernel
theorem d7_1 : decode prog_159_method_11_code 1 = .ok (.getfield 9, 3) := by decide +kernel
theorem d7_4 : decode prog_159_method_11_code 4 = .ok (.arraylength, 1) := by decide +kernel
theorem d7_5 : decode prog_159_method_11_code 5 = .ok (.ldc 22, 2) := by decide +kernel
theorem d7_7 : decode prog_159_method_11_code 7 = .ok (.if_icmp .ne 13, 3) := by decide +kernel
theorem d7_20 : decode prog_159_method_11_code 20 = .ok (.iconst 2, 1) := by decide +kernel
theorem d7_21 : decode prog_159_method_11_code 21 = .ok (.aload_n 0, 1) := by decide +kernel
theorem d7_22 : decode prog_159_method_11_code 22 = .ok (.getfield 9, 3) := by decide +kernel
theorem d7_25 : decode prog_159_method_11_code 25 = .ok (.arraylength, 1) := by decide +kernel
theorem d7_26 : decode prog_159_method_11_code 26 = .ok (.imul, 1) := by decide +kernel
theorem d7_27 : decode prog_159_method_11_code 27 = .ok (.newarray .long, 2) := by decide +kernel
theorem d7_29 : decode prog_159_method_11_code 29 = .ok (.astore_n 1, 1) := by decide +kernel
theorem d7_30 : decode prog_159_method_11_code 30 = .ok (.aload_n 1, 1) := by decide +kernel
theorem d7_31 : decode prog_159_method_11_code 31 = .ok (.arraylength, 1) := by decide +kernel
theorem d7_32 : decode prog_159_method_11_code 32 = .ok (.iconst 1, 1) := by decide +kernel
theorem d7_33 : decode prog_159_method_11_code 33 = .ok (.isub, 1) := by decide +kernel
theorem d7_34 : decode prog_159_method_11_code 34 = .ok (.istore_n 2, 1) := by decide +kernel
theorem d7_35 : decode prog_159_method_11_code 35 = .ok (.aload_n 0, 1) := by decide +kernel
theorem d7_36 : decode prog_159_method_11_code 36 = .ok (.getfield 9, 3) := by decide +kernel
theorem d7_39 : decode prog_159_method_11_code 39 = .ok (.astore_n 3, 1) := by decide +kernel
theorem d7_40 : decode prog_159_method_11_code 40 = .ok (.aload_n 3, 1) := by decide +kernel
theorem d7_41 : decode prog_159_method_11_code 41 = .ok (.arraylength, 1) := by decide +kernel
theorem d7_42 : decode prog_159_method_11_code 42 = .ok (.istore 4, 2) := by decide +kernel
theorem d7_44 : decode prog_159_method_11_code 44 = .ok (.iconst 0, 1) := by decide +kernel
theorem d7_45 : decode prog_159_method_11_code 45 = .ok (.istore 5, 2) := by decide +kernel
theorem d7_47 : decode prog_159_method_11_code 47 = .ok (.iload 5, 2) := by decide +kernel
theorem d7_49 : decode prog_159_method_11_code 49 = .ok (.iload 4, 2) := by decide +kernel
theorem d7_51 : decode prog_159_method_11_code 51 = .ok (.if_icmp .ge 58, 3) := by decide +kernel
theorem d7_54 : decode prog_159_method_11_code 54 = .ok (.aload_n 3, 1) := by decide +kernel
theorem d7_55 : decode prog_159_method_11_code 55 = .ok (.iload 5, 2) := by decide +kernel
theorem d7_57 : decode prog_159_method_11_code 57 = .ok (.laload, 1) := by decide +kernel
theorem d7_58 : decode prog_159_method_11_code 58 = .ok (.lstore 6, 2) := by decide +kernel
theorem d7_60 : decode prog_159_method_11_code 60 = .ok (.lload 6, 2) := by decide +kernel
theorem d7_62 : decode prog_159_method_11_code 62 = .ok (.lconst 0, 1) := by decide +kernel
theorem d7_63 : decode prog_159_method_11_code 63 = .ok (.lcmp, 1) := by decide +kernel
theorem d7_64 : decode prog_159_method_11_code 64 = .ok (.ifCond .eq 39, 3) := by decide +kernel
theorem d7_67 : decode prog_159_method_11_code 67 = .ok (.lload 6, 2) := by decide +kernel
theorem d7_69 : decode prog_159_method_11_code 69 = .ok (.bipush 32, 2) := by decide +kernel
theorem d7_71 : decode prog_159_method_11_code 71 = .ok (.lushr, 1) := by decide +kernel
theorem d7_72 : decode prog_159_method_11_code 72 = .ok (.l2i, 1) := by decide +kernel
theorem d7_73 : decode prog_159_method_11_code 73 = .ok (.iload_n 2, 1) := by decide +kernel
theorem d7_74 : decode prog_159_method_11_code 74 = .ok (.iand, 1) := by decide +kernel
theorem d7_75 : decode prog_159_method_11_code 75 = .ok (.istore 8, 2) := by decide +kernel
theorem d7_77 : decode prog_159_method_11_code 77 = .ok (.aload_n 1, 1) := by decide +kernel
theorem d7_78 : decode prog_159_method_11_code 78 = .ok (.iload 8, 2) := by decide +kernel
theorem d7_80 : decode prog_159_method_11_code 80 = .ok (.laload, 1) := by decide +kernel
theorem d7_81 : decode prog_159_method_11_code 81 = .ok (.lconst 0, 1) := by decide +kernel
theorem d7_82 : decode prog_159_method_11_code 82 = .ok (.lcmp, 1) := by decide +kernel
theorem d7_83 : decode prog_159_method_11_code 83 = .ok (.ifCond .eq 14, 3) := by decide +kernel
theorem d7_97 : decode prog_159_method_11_code 97 = .ok (.aload_n 1, 1) := by decide +kernel
theorem d7_98 : decode prog_159_method_11_code 98 = .ok (.iload 8, 2) := by decide +kernel
theorem d7_100 : decode prog_159_method_11_code 100 = .ok (.lload 6, 2) := by decide +kernel
theorem d7_102 : decode prog_159_method_11_code 102 = .ok (.lastore, 1) := by decide +kernel
theorem d7_103 : decode prog_159_method_11_code 103 = .ok (.iinc 5 1, 3) := by decide +kernel
theorem d7_106 : decode prog_159_method_11_code 106 = .ok (.goto (-59), 3) := by decide +kernel
theorem d7_109 : decode prog_159_method_11_code 109 = .ok (.aload_n 0, 1) := by decide +kernel
theorem d7_110 : decode prog_159_method_11_code 110 = .ok (.aload_n 1, 1) := by decide +kernel
theorem d7_111 : decode prog_159_method_11_code 111 = .ok (.putfield 9, 3) := by decide +kernel
theorem d7_114 : decode prog_159_method_11_code 114 = .ok (.return_, 1) := by decide +kernel
theorem ef_rmG (m : MethodId) (x0 : Addr) : entryFrame m #[(.ref x0)] 9 = mkF m 0 #[.val (.ref x0), .unset, .unset, .unset, .unset, .unset, .unset, .unset, .unset] [] := by first | (simp [entryFrame, mkF, argsToLocals, Value.category]; done) | rfl
def Q_rmG (Z : State) (r0 b : Addr) (g : Nat → Int64) (h0 : Heap) (n0 : Nat) (v : Option Value) (h : Heap) (L : List Loc) : Prop := v = none ∧ Fr n0 L ∧ Keep h0 h [r0] ∧ ∃ b' f', Fld Z h r0 "com/example/bivista/bivista/rows/HashSlots" "slots" "[J" (.ref b') ∧ own_Arf Z h b' .long (32 : Int32) f'
set_option maxRecDepth 65536 in
set_option maxHeartbeats 40000000 in
theorem rmG (l : Launch) (Z : State) (a0 : Array Value) (hw : ∀ d ∈ tables_1, d.before a0 Z = true) (ws : List Jvm.Cond) (r0 b : Addr) (g : Nat → Int64) (h0 : Heap) (n0 : Nat) (Z0 : n0 ≤ h0.size) (E_r0 : Exa Z h0 r0 "com/example/bivista/bivista/rows/HashSlots") (F_slots_r0 : Fld Z h0 r0 "com/example/bivista/bivista/rows/HashSlots" "slots" "[J" (.ref b)) (V_b : own_Arf Z h0 b .long (16 : Int32) (fun t => if t < 9 then .long (g t) else .long 0)) (g_r0 : n0 ≤ r0) (ne_r0_b : r0 ≠ b) (hg9 : ∀ t, t < 9 → ¬ g t = 0 ∧ (((g t).toUInt64 >>> ((32 : Int32) &&& 0x3f).toInt64.toUInt64).toInt64).toInt32 &&& (31 : Int32) = Int32.ofNat t) :
    MetFree l (⟨"com/example/bivista/bivista/rows/HashSlots", "grow", "()V"⟩ : MethodName) (head1 (Jvm.Cond.code (⟨"com/example/bivista/bivista/rows/HashSlots", "grow", "()V"⟩ : MethodName) prog_159_method_11_code 9 none :: ws) ({ frames := 0, cells := 1, slots := 32, locals := 0 } : Room)) (fun a U => a = #[(.ref r0)] ∧ Z.Warmed39 U.vm ∧ U.heap = h0) (fun _ _ _ _ _ => True) (fun _ U o U' => ∃ v L, o = .returned v ∧ Q_rmG Z r0 b g h0 n0 v U'.heap L ∧ FrameEnd U o U' L ({ frames := 0, cells := 1, slots := 32, locals := 0 } : Room).cells ({ frames := 0, cells := 1, slots := 32, locals := 0 } : Room).slots) := by
  refine MetFree.of_bodySF (plainFor_of_name own_pn0) hisR ?_
  intro p e s m args below meth c s₁ Bd hml0 hP hK
  obtain ⟨rfl, hZ, hh⟩ := hP
  have hx := Bd.exec
  have hby := Bd.bytes
  have hml : c.maxLocals = 9 := hml0
  have hown : s.vm.findClass "com/example/bivista/bivista/rows/HashSlots" = some m.cls := findClass_of_methodNamed Bd.named
  have hnm := (name_of_methodNamed Bd.named Bd.method).1
  have X0 : Stand p l e ({ frames := 0, cells := 1, slots := 32, locals := 0 } : Room) s m #[(.ref r0)] below meth c s₁ [] 0 0 := Stand.of_body Bd
  have e0 : s₁.heap = h0 := by rw [← hh, Bd.state]; rfl
  show own_Go p e below (s₁.setTop (entryFrame m #[(.ref r0)] 9)) (fun t o => ∃ v L, o = .returned v ∧ Q_rmG Z r0 b g h0 n0 v t.heap L ∧ FrameEnd s o t L ({ frames := 0, cells := 1, slots := 32, locals := 0 } : Room).cells ({ frames := 0, cells := 1, slots := 32, locals := 0 } : Room).slots)
  refine own_by (B := s₁.setTop (mkF m 0 #[.val (.ref r0), .unset, .unset, .unset, .unset, .unset, .unset, .unset, .unset] [])) (fun t k => castTop (ef_rmG m r0) k) ?_
  have Nf := Fr.nil n0
  have Zs := Z0
  have Kp := Keep.refl h0 [r0]
  refine own_by (B := s₁.setTop (mkF m 1 #[.val (.ref r0), .unset, .unset, .unset, .unset, .unset, .unset, .unset, .unset] [(.ref r0)])) (fun t k => XS.aloadN X0.here hx rfl (hb hby d7_0) rfl rfl k) ?_
  obtain ⟨T1, X1, e1, st1⟩ := getF X0 hx hZ hown (host := "") (Or.inl (hw _ (List.mem_of_getElem? (i := 11) rfl))) Via.refl e0 F_slots_r0 (g := (mkF m 1 #[.val (.ref r0), .unset, .unset, .unset, .unset, .unset, .unset, .unset, .unset] [(.ref r0)])) rfl rfl (hb hby d7_1)
  refine own_by (B := T1.setTop (mkF m 4 #[.val (.ref r0), .unset, .unset, .unset, .unset, .unset, .unset, .unset, .unset] [(.ref b)])) st1 ?_
  obtain ⟨cl2, Ar2, Sz2, Ng2, -⟩ := id V_b
  refine own_by (B := T1.setTop (mkF m 5 #[.val (.ref r0), .unset, .unset, .unset, .unset, .unset, .unset, .unset, .unset] [(.int (16 : Int32))])) (fun t k => X1.arraylength hx (by rw [e1]; exact Ar2.1) (State.isArrayOf_alike hZ.alike Ar2.2.1) (g := (mkF m 4 #[.val (.ref r0), .unset, .unset, .unset, .unset, .unset, .unset, .unset, .unset] [(.ref b)])) rfl rfl (hb hby d7_4) _ (by rw [len_of Sz2 Ng2]; exact k)) ?_
  refine own_by (B := T1.setTop (mkF m 7 #[.val (.ref r0), .unset, .unset, .unset, .unset, .unset, .unset, .unset, .unset] [(.int (1073741824 : Int32)), (.int (16 : Int32))])) (fun t k => X1.ldcInt hx hown (mvT hZ (hw _ (List.mem_of_getElem? (i := 40) rfl))) (g := (mkF m 5 #[.val (.ref r0), .unset, .unset, .unset, .unset, .unset, .unset, .unset, .unset] [(.int (16 : Int32))])) rfl (hb hby d7_5) _ k) ?_
  refine own_by (B := T1.setTop (mkF m 20 #[.val (.ref r0), .unset, .unset, .unset, .unset, .unset, .unset, .unset, .unset] [])) (fun t k => XS.icmpYes X1.here hx rfl (pc0 := 7) (pc' := 20) rfl (hb hby d7_7) rfl (feq (by decide)).2 (by decide) (by decide) k) ?_
  refine own_by (B := T1.setTop (mkF m 21 #[.val (.ref r0), .unset, .unset, .unset, .unset, .unset, .unset, .unset, .unset] [(.int (2 : Int32))])) (fun t k => XS.iconst X1.here hx rfl (hb hby d7_20) k) ?_
  refine own_by (B := T1.setTop (mkF m 22 #[.val (.ref r0), .unset, .unset, .unset, .unset, .unset, .unset, .unset, .unset] [(.ref r0), (.int (2 : Int32))])) (fun t k => XS.aloadN X1.here hx rfl (hb hby d7_21) rfl rfl k) ?_
  obtain ⟨T3, X3, e3, st3⟩ := getF X1 hx hZ hown (host := "") (Or.inl (hw _ (List.mem_of_getElem? (i := 11) rfl))) Via.refl e1 F_slots_r0 (g := (mkF m 22 #[.val (.ref r0), .unset, .unset, .unset, .unset, .unset, .unset, .unset, .unset] [(.ref r0), (.int (2 : Int32))])) rfl rfl (hb hby d7_22)
  refine own_by (B := T3.setTop (mkF m 25 #[.val (.ref r0), .unset, .unset, .unset, .unset, .unset, .unset, .unset, .unset] [(.ref b), (.int (2 : Int32))])) st3 ?_
  obtain ⟨cl4, Ar4, Sz4, Ng4, -⟩ := id V_b
  refine own_by (B := T3.setTop (mkF m 26 #[.val (.ref r0), .unset, .unset, .unset, .unset, .unset, .unset, .unset, .unset] [(.int (16 : Int32)), (.int (2 : Int32))])) (fun t k => X3.arraylength hx (by rw [e3]; exact Ar4.1) (State.isArrayOf_alike hZ.alike Ar4.2.1) (g := (mkF m 25 #[.val (.ref r0), .unset, .unset, .unset, .unset, .unset, .unset, .unset, .unset] [(.ref b), (.int (2 : Int32))])) rfl rfl (hb hby d7_25) _ (by rw [len_of Sz4 Ng4]; exact k)) ?_
  refine own_by (B := T3.setTop (mkF m 27 #[.val (.ref r0), .unset, .unset, .unset, .unset, .unset, .unset, .unset, .unset] [(.int (32 : Int32))])) (fun t k => XS.imul X3.here hx rfl (hb hby d7_26) rfl k) ?_
  obtain ⟨T5, h5, k5, X5, e5, E5, A5, st5⟩ := newP X3 hx hZ (hw _ (List.mem_of_getElem? (i := 10) rfl)) e3 (g := (mkF m 27 #[.val (.ref r0), .unset, .unset, .unset, .unset, .unset, .unset, .unset, .unset] [(.int (32 : Int32))])) rfl (hb hby d7_27) rfl (by decide) (cap := 32) (by decide) (by decide) (by decide) (by decide)
  obtain ⟨b5, gq5⟩ : ∃ z, z = h0.size := ⟨_, rfl⟩
  rw [← gq5] at A5 st5
  have ne_r0_b5 : r0 ≠ b5 := Nat.ne_of_lt (Nat.lt_of_lt_of_le E_r0.lt (Nat.le_of_eq gq5.symm))
  have ne_b_b5 : b ≠ b5 := Nat.ne_of_lt (Nat.lt_of_lt_of_le V_b.lt (Nat.le_of_eq gq5.symm))
  have g_b5 : n0 ≤ b5 := Nat.le_trans Zs (Nat.le_of_eq gq5.symm)
  have sz_b5 : h0.size ≤ b5 := Nat.le_trans Kp.1 (Nat.le_of_eq gq5.symm)
  have E_r0 := E_r0.ext E5
  have F_slots_r0 := F_slots_r0.ext E5
  have V_b := V_b.ext E5
  have Zs := Nat.le_trans Zs E5.1
  have Kp := Kp.ext E5
  have V_b5 := own_Arf.new A5 (by decide)
  refine own_by (B := T5.setTop (mkF m 29 #[.val (.ref r0), .unset, .unset, .unset, .unset, .unset, .unset, .unset, .unset] [(.ref b5)])) st5 ?_
  refine own_by (B := T5.setTop (mkF m 30 #[.val (.ref r0), .val (.ref b5), .unset, .unset, .unset, .unset, .unset, .unset, .unset] [])) (fun t k => XS.astoreN X5.here hx rfl (hb hby d7_29) rfl rfl (l' := #[.val (.ref r0), .val (.ref b5), .unset, .unset, .unset, .unset, .unset, .unset, .unset]) rfl k) ?_
  refine own_by (B := T5.setTop (mkF m 31 #[.val (.ref r0), .val (.ref b5), .unset, .unset, .unset, .unset, .unset, .unset, .unset] [(.ref b5)])) (fun t k => XS.aloadN X5.here hx rfl (hb hby d7_30) rfl rfl k) ?_
  obtain ⟨cl6, Ar6, Sz6, Ng6, -⟩ := id V_b5
  refine own_by (B := T5.setTop (mkF m 32 #[.val (.ref r0), .val (.ref b5), .unset, .unset, .unset, .unset, .unset, .unset, .unset] [(.int (32 : Int32))])) (fun t k => X5.arraylength hx (by rw [e5]; exact Ar6.1) (State.isArrayOf_alike hZ.alike Ar6.2.1) (g := (mkF m 31 #[.val (.ref r0), .val (.ref b5), .unset, .unset, .unset, .unset, .unset, .unset, .unset] [(.ref b5)])) rfl rfl (hb hby d7_31) _ (by rw [len_of Sz6 Ng6]; exact k)) ?_
  refine own_by (B := T5.setTop (mkF m 33 #[.val (.ref r0), .val (.ref b5), .unset, .unset, .unset, .unset, .unset, .unset, .unset] [(.int (1 : Int32)), (.int (32 : Int32))])) (fun t k => XS.iconst X5.here hx rfl (hb hby d7_32) k) ?_
  refine own_by (B := T5.setTop (mkF m 34 #[.val (.ref r0), .val (.ref b5), .unset, .unset, .unset, .unset, .unset, .unset, .unset] [(.int (31 : Int32))])) (fun t k => XS.isub X5.here hx rfl (hb hby d7_33) rfl k) ?_
  refine own_by (B := T5.setTop (mkF m 35 #[.val (.ref r0), .val (.ref b5), .val (.int (31 : Int32)), .unset, .unset, .unset, .unset, .unset, .unset] [])) (fun t k => XS.istoreN X5.here hx rfl (hb hby d7_34) rfl (l' := #[.val (.ref r0), .val (.ref b5), .val (.int (31 : Int32)), .unset, .unset, .unset, .unset, .unset, .unset]) rfl k) ?_
  refine own_by (B := T5.setTop (mkF m 36 #[.val (.ref r0), .val (.ref b5), .val (.int (31 : Int32)), .unset, .unset, .unset, .unset, .unset, .unset] [(.ref r0)])) (fun t k => XS.aloadN X5.here hx rfl (hb hby d7_35) rfl rfl k) ?_
  obtain ⟨T7, X7, e7, st7⟩ := getF X5 hx hZ hown (host := "") (Or.inl (hw _ (List.mem_of_getElem? (i := 11) rfl))) Via.refl e5 F_slots_r0 (g := (mkF m 36 #[.val (.ref r0), .val (.ref b5), .val (.int (31 : Int32)), .unset, .unset, .unset, .unset, .unset, .unset] [(.ref r0)])) rfl rfl (hb hby d7_36)
  refine own_by (B := T7.setTop (mkF m 39 #[.val (.ref r0), .val (.ref b5), .val (.int (31 : Int32)), .unset, .unset, .unset, .unset, .unset, .unset] [(.ref b)])) st7 ?_
  refine own_by (B := T7.setTop (mkF m 40 #[.val (.ref r0), .val (.ref b5), .val (.int (31 : Int32)), .val (.ref b), .unset, .unset, .unset, .unset, .unset] [])) (fun t k => XS.astoreN X7.here hx rfl (hb hby d7_39) rfl rfl (l' := #[.val (.ref r0), .val (.ref b5), .val (.int (31 : Int32)), .val (.ref b), .unset, .unset, .unset, .unset, .unset]) rfl k) ?_
  refine own_by (B := T7.setTop (mkF m 41 #[.val (.ref r0), .val (.ref b5), .val (.int (31 : Int32)), .val (.ref b), .unset, .unset, .unset, .unset, .unset] [(.ref b)])) (fun t k => XS.aloadN X7.here hx rfl (hb hby d7_40) rfl rfl k) ?_
  obtain ⟨cl8, Ar8, Sz8, Ng8, -⟩ := id V_b
  refine own_by (B := T7.setTop (mkF m 42 #[.val (.ref r0), .val (.ref b5), .val (.int (31 : Int32)), .val (.ref b), .unset, .unset, .unset, .unset, .unset] [(.int (16 : Int32))])) (fun t k => X7.arraylength hx (by rw [e7]; exact Ar8.1) (State.isArrayOf_alike hZ.alike Ar8.2.1) (g := (mkF m 41 #[.val (.ref r0), .val (.ref b5), .val (.int (31 : Int32)), .val (.ref b), .unset, .unset, .unset, .unset, .unset] [(.ref b)])) rfl rfl (hb hby d7_41) _ (by rw [len_of Sz8 Ng8]; exact k)) ?_
  refine own_by (B := T7.setTop (mkF m 44 #[.val (.ref r0), .val (.ref b5), .val (.int (31 : Int32)), .val (.ref b), .val (.int (16 : Int32)), .unset, .unset, .unset, .unset] [])) (fun t k => XS.istore X7.here hx rfl (hb hby d7_42) rfl (l' := #[.val (.ref r0), .val (.ref b5), .val (.int (31 : Int32)), .val (.ref b), .val (.int (16 : Int32)), .unset, .unset, .unset, .unset]) rfl k) ?_
  refine own_by (B := T7.setTop (mkF m 45 #[.val (.ref r0), .val (.ref b5), .val (.int (31 : Int32)), .val (.ref b), .val (.int (16 : Int32)), .unset, .unset, .unset, .unset] [(.int (0 : Int32))])) (fun t k => XS.iconst X7.here hx rfl (hb hby d7_44) k) ?_
  refine own_by (B := T7.setTop (mkF m 47 #[.val (.ref r0), .val (.ref b5), .val (.int (31 : Int32)), .val (.ref b), .val (.int (16 : Int32)), .val (.int (0 : Int32)), .unset, .unset, .unset] [])) (fun t k => XS.istore X7.here hx rfl (hb hby d7_45) rfl (l' := #[.val (.ref r0), .val (.ref b5), .val (.int (31 : Int32)), .val (.ref b), .val (.int (16 : Int32)), .val (.int (0 : Int32)), .unset, .unset, .unset]) rfl k) ?_
  have V_b5 := V_b5.congr (g := own_mid g 0) (fun t _ => (if_neg (by omega)).symm)
  have loop : ∀ (kk i : Nat) (xh : Int64) (ys : Int32) (T : State) (h : Heap) (locs : List Loc) (X : Stand p l e ({ frames := 0, cells := 1, slots := 32, locals := 0 } : Room) s m #[(.ref r0)] below meth c T locs 1 32) (eT : T.heap = h) (Nf : Fr n0 locs) (Zs : n0 ≤ h.size) (Kp : Keep h0 h [r0]) (E_r0 : Exa Z h r0 "com/example/bivista/bivista/rows/HashSlots") (F_slots_r0 : Fld Z h r0 "com/example/bivista/bivista/rows/HashSlots" "slots" "[J" (.ref b)) (V_b : own_Arf Z h b .long (16 : Int32) (fun t => if t < 9 then .long (g t) else .long 0)) (V_b5 : own_Arf Z h b5 .long (32 : Int32) (own_mid g i)), 1 ≤ i → i + kk = 16 → own_Go p e below (T.setTop (mkF m 47 #[.val (.ref r0), .val (.ref b5), .val (.int (31 : Int32)), .val (.ref b), .val (.int (16 : Int32)), .val (.int (Int32.ofNat i)), .val (.long xh), .second, .val (.int ys)] [])) (fun t o => ∃ v L, o = .returned v ∧ Q_rmG Z r0 b g h0 n0 v t.heap L ∧ FrameEnd s o t L ({ frames := 0, cells := 1, slots := 32, locals := 0 } : Room).cells ({ frames := 0, cells := 1, slots := 32, locals := 0 } : Room).slots) := by
    intro kk
    induction kk with
    | zero =>
      intro i xh ys T h locs X eT Nf Zs Kp E_r0 F_slots_r0 V_b V_b5 hi1 hik
      obtain rfl : i = 16 := by omega
      refine own_by (B := T.setTop (mkF m 49 #[.val (.ref r0), .val (.ref b5), .val (.int (31 : Int32)), .val (.ref b), .val (.int (16 : Int32)), .val (.int (Int32.ofNat 16)), .val (.long xh), .second, .val (.int ys)] [(.int (Int32.ofNat 16))])) (fun t k => XS.iload X.here hx rfl (hb hby d7_47) rfl k) ?_
      refine own_by (B := T.setTop (mkF m 51 #[.val (.ref r0), .val (.ref b5), .val (.int (31 : Int32)), .val (.ref b), .val (.int (16 : Int32)), .val (.int (Int32.ofNat 16)), .val (.long xh), .second, .val (.int ys)] [(.int (16 : Int32)), (.int (Int32.ofNat 16))])) (fun t k => XS.iload X.here hx rfl (hb hby d7_49) rfl k) ?_
      refine own_by (B := T.setTop (mkF m 109 #[.val (.ref r0), .val (.ref b5), .val (.int (31 : Int32)), .val (.ref b), .val (.int (16 : Int32)), .val (.int (Int32.ofNat 16)), .val (.long xh), .second, .val (.int ys)] [])) (fun t k => XS.icmpYes X.here hx rfl (pc0 := 51) (pc' := 109) rfl (hb hby d7_51) rfl (flt (by decide)).2.1 (by decide) (by decide) k) ?_
      refine own_by (B := T.setTop (mkF m 110 #[.val (.ref r0), .val (.ref b5), .val (.int (31 : Int32)), .val (.ref b), .val (.int (16 : Int32)), .val (.int (Int32.ofNat 16)), .val (.long xh), .second, .val (.int ys)] [(.ref r0)])) (fun t k => XS.aloadN X.here hx rfl (hb hby d7_109) rfl rfl k) ?_
      refine own_by (B := T.setTop (mkF m 111 #[.val (.ref r0), .val (.ref b5), .val (.int (31 : Int32)), .val (.ref b), .val (.int (16 : Int32)), .val (.int (Int32.ofNat 16)), .val (.long xh), .second, .val (.int ys)] [(.ref b5), (.ref r0)])) (fun t k => XS.aloadN X.here hx rfl (hb hby d7_110) rfl rfl k) ?_
      obtain ⟨T9, h9, X9, e9, W9, st9⟩ := putF X hx hZ hown (host := "") (Or.inl (hw _ (List.mem_of_getElem? (i := 11) rfl))) Via.refl eT F_slots_r0 E_r0 (Or.inl (hw _ (List.mem_of_getElem? (i := 12) rfl))) (hw _ (List.mem_of_getElem? (i := 2) rfl)) (ty := (.array .long)) (by decide) rfl rfl (g := (mkF m 111 #[.val (.ref r0), .val (.ref b5), .val (.int (31 : Int32)), .val (.ref b), .val (.int (16 : Int32)), .val (.int (Int32.ofNat 16)), .val (.long xh), .second, .val (.int ys)] [(.ref b5), (.ref r0)])) rfl rfl (hb hby d7_111)
      have E_r0 := E_r0.wr W9
      have F_slots_r0 := F_slots_r0.same W9
      have V_b := V_b.other W9 (Ne.symm ne_r0_b)
      have V_b5 := V_b5.other W9 (Ne.symm ne_r0_b5)
      have Zs : n0 ≤ h9.size := by rw [W9.size]; exact Zs
      have Kp := Kp.wr W9 (Or.inl (List.mem_of_getElem? (i := 0) rfl))
      have Nf := Fr.snoc X9 Nf g_r0
      refine own_by (B := T9.setTop (mkF m 114 #[.val (.ref r0), .val (.ref b5), .val (.int (31 : Int32)), .val (.ref b), .val (.int (16 : Int32)), .val (.int (Int32.ofNat 16)), .val (.long xh), .second, .val (.int ys)] [])) st9 ?_
      exact own_end X9 (v := none) (fun _ => rfl) (BodyLoose.notSynchronized Bd) (Q := (Q_rmG Z r0 b g h0 n0)) (fun fs hr => X9.returnOut hx Bd.returns (hb hby d7_114) hr) (show (Q_rmG Z r0 b g h0 n0) _ T9.heap _ from (by rw [e9]; exact ⟨rfl, Nf, Kp, b5, _, F_slots_r0, V_b5⟩)) (by decide) (by decide)
    | succ kk ih =>
      intro i xh ys T h locs X eT Nf Zs Kp E_r0 F_slots_r0 V_b V_b5 hi1 hik
      refine own_by (B := T.setTop (mkF m 49 #[.val (.ref r0), .val (.ref b5), .val (.int (31 : Int32)), .val (.ref b), .val (.int (16 : Int32)), .val (.int (Int32.ofNat i)), .val (.long xh), .second, .val (.int ys)] [(.int (Int32.ofNat i))])) (fun t k => XS.iload X.here hx rfl (hb hby d7_47) rfl k) ?_
      refine own_by (B := T.setTop (mkF m 51 #[.val (.ref r0), .val (.ref b5), .val (.int (31 : Int32)), .val (.ref b), .val (.int (16 : Int32)), .val (.int (Int32.ofNat i)), .val (.long xh), .second, .val (.int ys)] [(.int (16 : Int32)), (.int (Int32.ofNat i))])) (fun t k => XS.iload X.here hx rfl (hb hby d7_49) rfl k) ?_
      refine own_by (B := T.setTop (mkF m 54 #[.val (.ref r0), .val (.ref b5), .val (.int (31 : Int32)), .val (.ref b), .val (.int (16 : Int32)), .val (.int (Int32.ofNat i)), .val (.long xh), .second, .val (.int ys)] [])) (fun t k => XS.icmpNo X.here hx rfl (hb hby d7_51) rfl (tlt (own_ltN (m := 16) (by omega) (by omega))).2.1 k) ?_
      by_cases h9 : i < 9
      · refine own_by (B := T.setTop (mkF m 55 #[.val (.ref r0), .val (.ref b5), .val (.int (31 : Int32)), .val (.ref b), .val (.int (16 : Int32)), .val (.int (Int32.ofNat i)), .val (.long xh), .second, .val (.int ys)] [(.ref b)])) (fun t k => XS.aloadN X.here hx rfl (hb hby d7_54) rfl rfl k) ?_
        refine own_by (B := T.setTop (mkF m 57 #[.val (.ref r0), .val (.ref b5), .val (.int (31 : Int32)), .val (.ref b), .val (.int (16 : Int32)), .val (.int (Int32.ofNat i)), .val (.long xh), .second, .val (.int ys)] [(.int (Int32.ofNat i)), (.ref b)])) (fun t k => XS.iload X.here hx rfl (hb hby d7_55) rfl k) ?_
        obtain ⟨cl10, Ar10, hin10, hat10⟩ := V_b.at (j := (Int32.ofNat i)) (own_in (i := i) (m := 16) (by omega) (by omega))
        have hat10 := hat10.trans (congrArg some (show _ = (.long (g i)) from (by rw [own_tn (by omega)]; exact if_pos (by omega))))
        refine own_by (B := T.setTop (mkF m 58 #[.val (.ref r0), .val (.ref b5), .val (.int (31 : Int32)), .val (.ref b), .val (.int (16 : Int32)), .val (.int (Int32.ofNat i)), .val (.long xh), .second, .val (.int ys)] [(.long (g i))])) (fun t k => X.laload hx (j := (Int32.ofNat i)) (v := (.long (g i))) (by rw [eT]; exact Ar10.1) (State.isArrayOf_alike hZ.alike Ar10.2.1) Ar10.2.2 hin10 hat10 (g := (mkF m 57 #[.val (.ref r0), .val (.ref b5), .val (.int (31 : Int32)), .val (.ref b), .val (.int (16 : Int32)), .val (.int (Int32.ofNat i)), .val (.long xh), .second, .val (.int ys)] [(.int (Int32.ofNat i)), (.ref b)])) rfl rfl (hb hby d7_57) _ k) ?_
        refine own_by (B := T.setTop (mkF m 60 #[.val (.ref r0), .val (.ref b5), .val (.int (31 : Int32)), .val (.ref b), .val (.int (16 : Int32)), .val (.int (Int32.ofNat i)), .val (.long (g i)), .second, .val (.int ys)] [])) (fun t k => XS.lstore X.here hx rfl (hb hby d7_58) rfl (l' := #[.val (.ref r0), .val (.ref b5), .val (.int (31 : Int32)), .val (.ref b), .val (.int (16 : Int32)), .val (.int (Int32.ofNat i)), .val (.long (g i)), .second, .val (.int ys)]) rfl k) ?_
        refine own_by (B := T.setTop (mkF m 62 #[.val (.ref r0), .val (.ref b5), .val (.int (31 : Int32)), .val (.ref b), .val (.int (16 : Int32)), .val (.int (Int32.ofNat i)), .val (.long (g i)), .second, .val (.int ys)] [(.long (g i))])) (fun t k => XS.lload X.here hx rfl (hb hby d7_60) rfl k) ?_
        refine own_by (B := T.setTop (mkF m 63 #[.val (.ref r0), .val (.ref b5), .val (.int (31 : Int32)), .val (.ref b), .val (.int (16 : Int32)), .val (.int (Int32.ofNat i)), .val (.long (g i)), .second, .val (.int ys)] [(.long (0 : Int64)), (.long (g i))])) (fun t k => XS.lconst X.here hx rfl (hb hby d7_62) k) ?_
        refine own_by (B := T.setTop (mkF m 64 #[.val (.ref r0), .val (.ref b5), .val (.int (31 : Int32)), .val (.ref b), .val (.int (16 : Int32)), .val (.int (Int32.ofNat i)), .val (.long (g i)), .second, .val (.int ys)] [(.int (lcmpW (g i) (0 : Int64)))])) (fun t k => XS.lcmp X.here hx rfl (hb hby d7_63) rfl k) ?_
        refine own_by (B := T.setTop (mkF m 67 #[.val (.ref r0), .val (.ref b5), .val (.int (31 : Int32)), .val (.ref b), .val (.int (16 : Int32)), .val (.int (Int32.ofNat i)), .val (.long (g i)), .second, .val (.int ys)] [])) (fun t k => XS.ifNo X.here hx rfl (hb hby d7_64) rfl ((if0 _ _).trans (feq (own_lw0 (hg9 i (by omega)).1)).1) k) ?_
        refine own_by (B := T.setTop (mkF m 69 #[.val (.ref r0), .val (.ref b5), .val (.int (31 : Int32)), .val (.ref b), .val (.int (16 : Int32)), .val (.int (Int32.ofNat i)), .val (.long (g i)), .second, .val (.int ys)] [(.long (g i))])) (fun t k => XS.lload X.here hx rfl (hb hby d7_67) rfl k) ?_
        refine own_by (B := T.setTop (mkF m 71 #[.val (.ref r0), .val (.ref b5), .val (.int (31 : Int32)), .val (.ref b), .val (.int (16 : Int32)), .val (.int (Int32.ofNat i)), .val (.long (g i)), .second, .val (.int ys)] [(.int (32 : Int32)), (.long (g i))])) (fun t k => XS.bipush X.here hx rfl (hb hby d7_69) k) ?_
        refine own_by (B := T.setTop (mkF m 72 #[.val (.ref r0), .val (.ref b5), .val (.int (31 : Int32)), .val (.ref b), .val (.int (16 : Int32)), .val (.int (Int32.ofNat i)), .val (.long (g i)), .second, .val (.int ys)] [(.long (((g i).toUInt64 >>> ((32 : Int32) &&& 0x3f).toInt64.toUInt64).toInt64))])) (fun t k => XS.lushr X.here hx rfl (hb hby d7_71) rfl k) ?_
        refine own_by (B := T.setTop (mkF m 73 #[.val (.ref r0), .val (.ref b5), .val (.int (31 : Int32)), .val (.ref b), .val (.int (16 : Int32)), .val (.int (Int32.ofNat i)), .val (.long (g i)), .second, .val (.int ys)] [(.int ((((g i).toUInt64 >>> ((32 : Int32) &&& 0x3f).toInt64.toUInt64).toInt64).toInt32))])) (fun t k => XS.l2i X.here hx rfl (hb hby d7_72) rfl k) ?_
        refine own_by (B := T.setTop (mkF m 74 #[.val (.ref r0), .val (.ref b5), .val (.int (31 : Int32)), .val (.ref b), .val (.int (16 : Int32)), .val (.int (Int32.ofNat i)), .val (.long (g i)), .second, .val (.int ys)] [(.int (31 : Int32)), (.int ((((g i).toUInt64 >>> ((32 : Int32) &&& 0x3f).toInt64.toUInt64).toInt64).toInt32))])) (fun t k => XS.iloadN X.here hx rfl (hb hby d7_73) rfl k) ?_
        refine own_by (B := T.setTop (mkF m 75 #[.val (.ref r0), .val (.ref b5), .val (.int (31 : Int32)), .val (.ref b), .val (.int (16 : Int32)), .val (.int (Int32.ofNat i)), .val (.long (g i)), .second, .val (.int ys)] [(.int (((((g i).toUInt64 >>> ((32 : Int32) &&& 0x3f).toInt64.toUInt64).toInt64).toInt32) &&& (31 : Int32)))])) (fun t k => XS.iand X.here hx rfl (hb hby d7_74) rfl k) ?_
        rw [show (((((g i).toUInt64 >>> ((32 : Int32) &&& 0x3f).toInt64.toUInt64).toInt64).toInt32) &&& (31 : Int32)) = (Int32.ofNat i) from (hg9 i (by omega)).2]
        refine own_by (B := T.setTop (mkF m 77 #[.val (.ref r0), .val (.ref b5), .val (.int (31 : Int32)), .val (.ref b), .val (.int (16 : Int32)), .val (.int (Int32.ofNat i)), .val (.long (g i)), .second, .val (.int (Int32.ofNat i))] [])) (fun t k => XS.istore X.here hx rfl (hb hby d7_75) rfl (l' := #[.val (.ref r0), .val (.ref b5), .val (.int (31 : Int32)), .val (.ref b), .val (.int (16 : Int32)), .val (.int (Int32.ofNat i)), .val (.long (g i)), .second, .val (.int (Int32.ofNat i))]) rfl k) ?_
        refine own_by (B := T.setTop (mkF m 78 #[.val (.ref r0), .val (.ref b5), .val (.int (31 : Int32)), .val (.ref b), .val (.int (16 : Int32)), .val (.int (Int32.ofNat i)), .val (.long (g i)), .second, .val (.int (Int32.ofNat i))] [(.ref b5)])) (fun t k => XS.aloadN X.here hx rfl (hb hby d7_77) rfl rfl k) ?_
        refine own_by (B := T.setTop (mkF m 80 #[.val (.ref r0), .val (.ref b5), .val (.int (31 : Int32)), .val (.ref b), .val (.int (16 : Int32)), .val (.int (Int32.ofNat i)), .val (.long (g i)), .second, .val (.int (Int32.ofNat i))] [(.int (Int32.ofNat i)), (.ref b5)])) (fun t k => XS.iload X.here hx rfl (hb hby d7_78) rfl k) ?_
        obtain ⟨cl11, Ar11, hin11, hat11⟩ := V_b5.at (j := (Int32.ofNat i)) (own_in (i := i) (m := 32) (by omega) (by omega))
        have hat11 := hat11.trans (congrArg some (show _ = (.long (0 : Int64)) from (by rw [own_tn (by omega)]; exact if_neg (by omega))))
        refine own_by (B := T.setTop (mkF m 81 #[.val (.ref r0), .val (.ref b5), .val (.int (31 : Int32)), .val (.ref b), .val (.int (16 : Int32)), .val (.int (Int32.ofNat i)), .val (.long (g i)), .second, .val (.int (Int32.ofNat i))] [(.long (0 : Int64))])) (fun t k => X.laload hx (j := (Int32.ofNat i)) (v := (.long (0 : Int64))) (by rw [eT]; exact Ar11.1) (State.isArrayOf_alike hZ.alike Ar11.2.1) Ar11.2.2 hin11 hat11 (g := (mkF m 80 #[.val (.ref r0), .val (.ref b5), .val (.int (31 : Int32)), .val (.ref b), .val (.int (16 : Int32)), .val (.int (Int32.ofNat i)), .val (.long (g i)), .second, .val (.int (Int32.ofNat i))] [(.int (Int32.ofNat i)), (.ref b5)])) rfl rfl (hb hby d7_80) _ k) ?_
        refine own_by (B := T.setTop (mkF m 82 #[.val (.ref r0), .val (.ref b5), .val (.int (31 : Int32)), .val (.ref b), .val (.int (16 : Int32)), .val (.int (Int32.ofNat i)), .val (.long (g i)), .second, .val (.int (Int32.ofNat i))] [(.long (0 : Int64)), (.long (0 : Int64))])) (fun t k => XS.lconst X.here hx rfl (hb hby d7_81) k) ?_
        refine own_by (B := T.setTop (mkF m 83 #[.val (.ref r0), .val (.ref b5), .val (.int (31 : Int32)), .val (.ref b), .val (.int (16 : Int32)), .val (.int (Int32.ofNat i)), .val (.long (g i)), .second, .val (.int (Int32.ofNat i))] [(.int (0 : Int32))])) (fun t k => XS.lcmp X.here hx rfl (hb hby d7_82) rfl k) ?_
        refine own_by (B := T.setTop (mkF m 97 #[.val (.ref r0), .val (.ref b5), .val (.int (31 : Int32)), .val (.ref b), .val (.int (16 : Int32)), .val (.int (Int32.ofNat i)), .val (.long (g i)), .second, .val (.int (Int32.ofNat i))] [])) (fun t k => XS.ifYes X.here hx rfl (pc0 := 83) (pc' := 97) rfl (hb hby d7_83) rfl ((if0 _ _).trans (teq (by decide)).1) (by decide) (by decide) k) ?_
        refine own_by (B := T.setTop (mkF m 98 #[.val (.ref r0), .val (.ref b5), .val (.int (31 : Int32)), .val (.ref b), .val (.int (16 : Int32)), .val (.int (Int32.ofNat i)), .val (.long (g i)), .second, .val (.int (Int32.ofNat i))] [(.ref b5)])) (fun t k => XS.aloadN X.here hx rfl (hb hby d7_97) rfl rfl k) ?_
        refine own_by (B := T.setTop (mkF m 100 #[.val (.ref r0), .val (.ref b5), .val (.int (31 : Int32)), .val (.ref b), .val (.int (16 : Int32)), .val (.int (Int32.ofNat i)), .val (.long (g i)), .second, .val (.int (Int32.ofNat i))] [(.int (Int32.ofNat i)), (.ref b5)])) (fun t k => XS.iload X.here hx rfl (hb hby d7_98) rfl k) ?_
        refine own_by (B := T.setTop (mkF m 102 #[.val (.ref r0), .val (.ref b5), .val (.int (31 : Int32)), .val (.ref b), .val (.int (16 : Int32)), .val (.int (Int32.ofNat i)), .val (.long (g i)), .second, .val (.int (Int32.ofNat i))] [(.long (g i)), (.int (Int32.ofNat i)), (.ref b5)])) (fun t k => XS.lload X.here hx rfl (hb hby d7_100) rfl k) ?_
        obtain ⟨cl12, Ar12, hin12, -⟩ := V_b5.at (j := (Int32.ofNat i)) (own_in (i := i) (m := 32) (by omega) (by omega))
        obtain ⟨T12, h12, X12, e12, W12, st12⟩ := stJ X hx hZ eT Ar12 (j := (Int32.ofNat i)) hin12 (g := (mkF m 102 #[.val (.ref r0), .val (.ref b5), .val (.int (31 : Int32)), .val (.ref b), .val (.int (16 : Int32)), .val (.int (Int32.ofNat i)), .val (.long (g i)), .second, .val (.int (Int32.ofNat i))] [(.long (g i)), (.int (Int32.ofNat i)), (.ref b5)])) rfl rfl (hb hby d7_102)
        have E_r0 := E_r0.wr W12
        have F_slots_r0 := F_slots_r0.other W12 (Or.inl ne_r0_b5)
        have V_b := V_b.other W12 ne_b_b5
        have V_b5 := V_b5.set W12
        have Zs : n0 ≤ h12.size := by rw [W12.size]; exact Zs
        have Kp := Kp.wr W12 (Or.inr sz_b5)
        have Nf := Fr.snoc X12 Nf g_b5
        refine own_by (B := T12.setTop (mkF m 103 #[.val (.ref r0), .val (.ref b5), .val (.int (31 : Int32)), .val (.ref b), .val (.int (16 : Int32)), .val (.int (Int32.ofNat i)), .val (.long (g i)), .second, .val (.int (Int32.ofNat i))] [])) st12 ?_
        have V_b5 := V_b5.congr (g := own_mid g (i + 1)) (fun t _ => own_mid_next (by omega) t)
        refine own_by (B := T12.setTop (mkF m 106 #[.val (.ref r0), .val (.ref b5), .val (.int (31 : Int32)), .val (.ref b), .val (.int (16 : Int32)), .val (.int ((Int32.ofNat i) + (1 : Int32))), .val (.long (g i)), .second, .val (.int (Int32.ofNat i))] [])) (fun t k => XS.iinc X12.here hx rfl (hb hby d7_103) rfl (l' := #[.val (.ref r0), .val (.ref b5), .val (.int (31 : Int32)), .val (.ref b), .val (.int (16 : Int32)), .val (.int ((Int32.ofNat i) + (1 : Int32))), .val (.long (g i)), .second, .val (.int (Int32.ofNat i))]) rfl k) ?_
        refine own_by (B := T12.setTop (mkF m 47 #[.val (.ref r0), .val (.ref b5), .val (.int (31 : Int32)), .val (.ref b), .val (.int (16 : Int32)), .val (.int ((Int32.ofNat i) + (1 : Int32))), .val (.long (g i)), .second, .val (.int (Int32.ofNat i))] [])) (fun t k => XS.goto X12.here hx rfl (pc0 := 106) (pc' := 47) rfl (hb hby d7_106) (by decide) (by decide) k) ?_
        rw [show ((Int32.ofNat i) + (1 : Int32)) = (Int32.ofNat (i + 1)) from own_a1 i]
        exact ih (i + 1) _ _ T12 h12 _ X12 e12 Nf Zs Kp E_r0 F_slots_r0 V_b V_b5 (by omega) (by omega)
      · refine own_by (B := T.setTop (mkF m 55 #[.val (.ref r0), .val (.ref b5), .val (.int (31 : Int32)), .val (.ref b), .val (.int (16 : Int32)), .val (.int (Int32.ofNat i)), .val (.long xh), .second, .val (.int ys)] [(.ref b)])) (fun t k => XS.aloadN X.here hx rfl (hb hby d7_54) rfl rfl k) ?_
        refine own_by (B := T.setTop (mkF m 57 #[.val (.ref r0), .val (.ref b5), .val (.int (31 : Int32)), .val (.ref b), .val (.int (16 : Int32)), .val (.int (Int32.ofNat i)), .val (.long xh), .second, .val (.int ys)] [(.int (Int32.ofNat i)), (.ref b)])) (fun t k => XS.iload X.here hx rfl (hb hby d7_55) rfl k) ?_
        obtain ⟨cl13, Ar13, hin13, hat13⟩ := V_b.at (j := (Int32.ofNat i)) (own_in (m := 16) (by omega) (by omega))
        have hat13 := hat13.trans (congrArg some (show _ = (.long (0 : Int64)) from (by rw [own_tn (by omega)]; exact if_neg (by omega))))
        refine own_by (B := T.setTop (mkF m 58 #[.val (.ref r0), .val (.ref b5), .val (.int (31 : Int32)), .val (.ref b), .val (.int (16 : Int32)), .val (.int (Int32.ofNat i)), .val (.long xh), .second, .val (.int ys)] [(.long (0 : Int64))])) (fun t k => X.laload hx (j := (Int32.ofNat i)) (v := (.long (0 : Int64))) (by rw [eT]; exact Ar13.1) (State.isArrayOf_alike hZ.alike Ar13.2.1) Ar13.2.2 hin13 hat13 (g := (mkF m 57 #[.val (.ref r0), .val (.ref b5), .val (.int (31 : Int32)), .val (.ref b), .val (.int (16 : Int32)), .val (.int (Int32.ofNat i)), .val (.long xh), .second, .val (.int ys)] [(.int (Int32.ofNat i)), (.ref b)])) rfl rfl (hb hby d7_57) _ k) ?_
        refine own_by (B := T.setTop (mkF m 60 #[.val (.ref r0), .val (.ref b5), .val (.int (31 : Int32)), .val (.ref b), .val (.int (16 : Int32)), .val (.int (Int32.ofNat i)), .val (.long (0 : Int64)), .second, .val (.int ys)] [])) (fun t k => XS.lstore X.here hx rfl (hb hby d7_58) rfl (l' := #[.val (.ref r0), .val (.ref b5), .val (.int (31 : Int32)), .val (.ref b), .val (.int (16 : Int32)), .val (.int (Int32.ofNat i)), .val (.long (0 : Int64)), .second, .val (.int ys)]) rfl k) ?_
        refine own_by (B := T.setTop (mkF m 62 #[.val (.ref r0), .val (.ref b5), .val (.int (31 : Int32)), .val (.ref b), .val (.int (16 : Int32)), .val (.int (Int32.ofNat i)), .val (.long (0 : Int64)), .second, .val (.int ys)] [(.long (0 : Int64))])) (fun t k => XS.lload X.here hx rfl (hb hby d7_60) rfl k) ?_
        refine own_by (B := T.setTop (mkF m 63 #[.val (.ref r0), .val (.ref b5), .val (.int (31 : Int32)), .val (.ref b), .val (.int (16 : Int32)), .val (.int (Int32.ofNat i)), .val (.long (0 : Int64)), .second, .val (.int ys)] [(.long (0 : Int64)), (.long (0 : Int64))])) (fun t k => XS.lconst X.here hx rfl (hb hby d7_62) k) ?_
        refine own_by (B := T.setTop (mkF m 64 #[.val (.ref r0), .val (.ref b5), .val (.int (31 : Int32)), .val (.ref b), .val (.int (16 : Int32)), .val (.int (Int32.ofNat i)), .val (.long (0 : Int64)), .second, .val (.int ys)] [(.int (0 : Int32))])) (fun t k => XS.lcmp X.here hx rfl (hb hby d7_63) rfl k) ?_
        refine own_by (B := T.setTop (mkF m 103 #[.val (.ref r0), .val (.ref b5), .val (.int (31 : Int32)), .val (.ref b), .val (.int (16 : Int32)), .val (.int (Int32.ofNat i)), .val (.long (0 : Int64)), .second, .val (.int ys)] [])) (fun t k => XS.ifYes X.here hx rfl (pc0 := 64) (pc' := 103) rfl (hb hby d7_64) rfl ((if0 _ _).trans (teq (by decide)).1) (by decide) (by decide) k) ?_
        refine own_by (B := T.setTop (mkF m 106 #[.val (.ref r0), .val (.ref b5), .val (.int (31 : Int32)), .val (.ref b), .val (.int (16 : Int32)), .val (.int ((Int32.ofNat i) + (1 : Int32))), .val (.long (0 : Int64)), .second, .val (.int ys)] [])) (fun t k => XS.iinc X.here hx rfl (hb hby d7_103) rfl (l' := #[.val (.ref r0), .val (.ref b5), .val (.int (31 : Int32)), .val (.ref b), .val (.int (16 : Int32)), .val (.int ((Int32.ofNat i) + (1 : Int32))), .val (.long (0 : Int64)), .second, .val (.int ys)]) rfl k) ?_
        refine own_by (B := T.setTop (mkF m 47 #[.val (.ref r0), .val (.ref b5), .val (.int (31 : Int32)), .val (.ref b), .val (.int (16 : Int32)), .val (.int ((Int32.ofNat i) + (1 : Int32))), .val (.long (0 : Int64)), .second, .val (.int ys)] [])) (fun t k => XS.goto X.here hx rfl (pc0 := 106) (pc' := 47) rfl (hb hby d7_106) (by decide) (by decide) k) ?_
        rw [show ((Int32.ofNat i) + (1 : Int32)) = (Int32.ofNat (i + 1)) from own_a1 i]
        have V_b5 := V_b5.congr (g := own_mid g (i + 1)) (fun t _ => own_mid_skip h9 t)
        exact ih (i + 1) _ _ T h _ X eT Nf Zs Kp E_r0 F_slots_r0 V_b V_b5 (by omega) (by omega)
  refine own_by (B := T7.setTop (mkF m 49 #[.val (.ref r0), .val (.ref b5), .val (.int (31 : Int32)), .val (.ref b), .val (.int (16 : Int32)), .val (.int (0 : Int32)), .unset, .unset, .unset] [(.int (0 : Int32))])) (fun t k => XS.iload X7.here hx rfl (hb hby d7_47) rfl k) ?_
  refine own_by (B := T7.setTop (mkF m 51 #[.val (.ref r0), .val (.ref b5), .val (.int (31 : Int32)), .val (.ref b), .val (.int (16 : Int32)), .val (.int (0 : Int32)), .unset, .unset, .unset] [(.int (16 : Int32)), (.int (0 : Int32))])) (fun t k => XS.iload X7.here hx rfl (hb hby d7_49) rfl k) ?_
  refine own_by (B := T7.setTop (mkF m 54 #[.val (.ref r0), .val (.ref b5), .val (.int (31 : Int32)), .val (.ref b), .val (.int (16 : Int32)), .val (.int (0 : Int32)), .unset, .unset, .unset] [])) (fun t k => XS.icmpNo X7.here hx rfl (hb hby d7_51) rfl (tlt (by decide)).2.1 k) ?_
  refine own_by (B := T7.setTop (mkF m 55 #[.val (.ref r0), .val (.ref b5), .val (.int (31 : Int32)), .val (.ref b), .val (.int (16 : Int32)), .val (.int (Int32.ofNat 0)), .unset, .unset, .unset] [(.ref b)])) (fun t k => XS.aloadN X7.here hx rfl (hb hby d7_54) rfl rfl k) ?_
  refine own_by (B := T7.setTop (mkF m 57 #[.val (.ref r0), .val (.ref b5), .val (.int (31 : Int32)), .val (.ref b), .val (.int (16 : Int32)), .val (.int (Int32.ofNat 0)), .unset, .unset, .unset] [(.int (Int32.ofNat 0)), (.ref b)])) (fun t k => XS.iload X7.here hx rfl (hb hby d7_55) rfl k) ?_
  obtain ⟨cl14, Ar14, hin14, hat14⟩ := V_b.at (j := (Int32.ofNat 0)) (own_in (i := 0) (m := 16) (by omega) (by omega))
  have hat14 := hat14.trans (congrArg some (show _ = (.long (g 0)) from (by rw [own_tn (by omega)]; exact if_pos (by omega))))
  refine own_by (B := T7.setTop (mkF m 58 #[.val (.ref r0), .val (.ref b5), .val (.int (31 : Int32)), .val (.ref b), .val (.int (16 : Int32)), .val (.int (Int32.ofNat 0)), .unset, .unset, .unset] [(.long (g 0))])) (fun t k => X7.laload hx (j := (Int32.ofNat 0)) (v := (.long (g 0))) (by rw [e7]; exact Ar14.1) (State.isArrayOf_alike hZ.alike Ar14.2.1) Ar14.2.2 hin14 hat14 (g := (mkF m 57 #[.val (.ref r0), .val (.ref b5), .val (.int (31 : Int32)), .val (.ref b), .val (.int (16 : Int32)), .val (.int (Int32.ofNat 0)), .unset, .unset, .unset] [(.int (Int32.ofNat 0)), (.ref b)])) rfl rfl (hb hby d7_57) _ k) ?_
  refine own_by (B := T7.setTop (mkF m 60 #[.val (.ref r0), .val (.ref b5), .val (.int (31 : Int32)), .val (.ref b), .val (.int (16 : Int32)), .val (.int (Int32.ofNat 0)), .val (.long (g 0)), .second, .unset] [])) (fun t k => XS.lstore X7.here hx rfl (hb hby d7_58) rfl (l' := #[.val (.ref r0), .val (.ref b5), .val (.int (31 : Int32)), .val (.ref b), .val (.int (16 : Int32)), .val (.int (Int32.ofNat 0)), .val (.long (g 0)), .second, .unset]) rfl k) ?_
  refine own_by (B := T7.setTop (mkF m 62 #[.val (.ref r0), .val (.ref b5), .val (.int (31 : Int32)), .val (.ref b), .val (.int (16 : Int32)), .val (.int (Int32.ofNat 0)), .val (.long (g 0)), .second, .unset] [(.long (g 0))])) (fun t k => XS.lload X7.here hx rfl (hb hby d7_60) rfl k) ?_
  refine own_by (B := T7.setTop (mkF m 63 #[.val (.ref r0), .val (.ref b5), .val (.int (31 : Int32)), .val (.ref b), .val (.int (16 : Int32)), .val (.int (Int32.ofNat 0)), .val (.long (g 0)), .second, .unset] [(.long (0 : Int64)), (.long (g 0))])) (fun t k => XS.lconst X7.here hx rfl (hb hby d7_62) k) ?_
  refine own_by (B := T7.setTop (mkF m 64 #[.val (.ref r0), .val (.ref b5), .val (.int (31 : Int32)), .val (.ref b), .val (.int (16 : Int32)), .val (.int (Int32.ofNat 0)), .val (.long (g 0)), .second, .unset] [(.int (lcmpW (g 0) (0 : Int64)))])) (fun t k => XS.lcmp X7.here hx rfl (hb hby d7_63) rfl k) ?_
  refine own_by (B := T7.setTop (mkF m 67 #[.val (.ref r0), .val (.ref b5), .val (.int (31 : Int32)), .val (.ref b), .val (.int (16 : Int32)), .val (.int (Int32.ofNat 0)), .val (.long (g 0)), .second, .unset] [])) (fun t k => XS.ifNo X7.here hx rfl (hb hby d7_64) rfl ((if0 _ _).trans (feq (own_lw0 (hg9 0 (by omega)).1)).1) k) ?_
  refine own_by (B := T7.setTop (mkF m 69 #[.val (.ref r0), .val (.ref b5), .val (.int (31 : Int32)), .val (.ref b), .val (.int (16 : Int32)), .val (.int (Int32.ofNat 0)), .val (.long (g 0)), .second, .unset] [(.long (g 0))])) (fun t k => XS.lload X7.here hx rfl (hb hby d7_67) rfl k) ?_
  refine own_by (B := T7.setTop (mkF m 71 #[.val (.ref r0), .val (.ref b5), .val (.int (31 : Int32)), .val (.ref b), .val (.int (16 : Int32)), .val (.int (Int32.ofNat 0)), .val (.long (g 0)), .second, .unset] [(.int (32 : Int32)), (.long (g 0))])) (fun t k => XS.bipush X7.here hx rfl (hb hby d7_69) k) ?_
  refine own_by (B := T7.setTop (mkF m 72 #[.val (.ref r0), .val (.ref b5), .val (.int (31 : Int32)), .val (.ref b), .val (.int (16 : Int32)), .val (.int (Int32.ofNat 0)), .val (.long (g 0)), .second, .unset] [(.long (((g 0).toUInt64 >>> ((32 : Int32) &&& 0x3f).toInt64.toUInt64).toInt64))])) (fun t k => XS.lushr X7.here hx rfl (hb hby d7_71) rfl k) ?_
  refine own_by (B := T7.setTop (mkF m 73 #[.val (.ref r0), .val (.ref b5), .val (.int (31 : Int32)), .val (.ref b), .val (.int (16 : Int32)), .val (.int (Int32.ofNat 0)), .val (.long (g 0)), .second, .unset] [(.int ((((g 0).toUInt64 >>> ((32 : Int32) &&& 0x3f).toInt64.toUInt64).toInt64).toInt32))])) (fun t k => XS.l2i X7.here hx rfl (hb hby d7_72) rfl k) ?_
  refine own_by (B := T7.setTop (mkF m 74 #[.val (.ref r0), .val (.ref b5), .val (.int (31 : Int32)), .val (.ref b), .val (.int (16 : Int32)), .val (.int (Int32.ofNat 0)), .val (.long (g 0)), .second, .unset] [(.int (31 : Int32)), (.int ((((g 0).toUInt64 >>> ((32 : Int32) &&& 0x3f).toInt64.toUInt64).toInt64).toInt32))])) (fun t k => XS.iloadN X7.here hx rfl (hb hby d7_73) rfl k) ?_
  refine own_by (B := T7.setTop (mkF m 75 #[.val (.ref r0), .val (.ref b5), .val (.int (31 : Int32)), .val (.ref b), .val (.int (16 : Int32)), .val (.int (Int32.ofNat 0)), .val (.long (g 0)), .second, .unset] [(.int (((((g 0).toUInt64 >>> ((32 : Int32) &&& 0x3f).toInt64.toUInt64).toInt64).toInt32) &&& (31 : Int32)))])) (fun t k => XS.iand X7.here hx rfl (hb hby d7_74) rfl k) ?_
  rw [show (((((g 0).toUInt64 >>> ((32 : Int32) &&& 0x3f).toInt64.toUInt64).toInt64).toInt32) &&& (31 : Int32)) = (Int32.ofNat 0) from (hg9 0 (by omega)).2]
  refine own_by (B := T7.setTop (mkF m 77 #[.val (.ref r0), .val (.ref b5), .val (.int (31 : Int32)), .val (.ref b), .val (.int (16 : Int32)), .val (.int (Int32.ofNat 0)), .val (.long (g 0)), .second, .val (.int (Int32.ofNat 0))] [])) (fun t k => XS.istore X7.here hx rfl (hb hby d7_75) rfl (l' := #[.val (.ref r0), .val (.ref b5), .val (.int (31 : Int32)), .val (.ref b), .val (.int (16 : Int32)), .val (.int (Int32.ofNat 0)), .val (.long (g 0)), .second, .val (.int (Int32.ofNat 0))]) rfl k) ?_
  refine own_by (B := T7.setTop (mkF m 78 #[.val (.ref r0), .val (.ref b5), .val (.int (31 : Int32)), .val (.ref b), .val (.int (16 : Int32)), .val (.int (Int32.ofNat 0)), .val (.long (g 0)), .second, .val (.int (Int32.ofNat 0))] [(.ref b5)])) (fun t k => XS.aloadN X7.here hx rfl (hb hby d7_77) rfl rfl k) ?_
  refine own_by (B := T7.setTop (mkF m 80 #[.val (.ref r0), .val (.ref b5), .val (.int (31 : Int32)), .val (.ref b), .val (.int (16 : Int32)), .val (.int (Int32.ofNat 0)), .val (.long (g 0)), .second, .val (.int (Int32.ofNat 0))] [(.int (Int32.ofNat 0)), (.ref b5)])) (fun t k => XS.iload X7.here hx rfl (hb hby d7_78) rfl k) ?_
  obtain ⟨cl15, Ar15, hin15, hat15⟩ := V_b5.at (j := (Int32.ofNat 0)) (own_in (i := 0) (m := 32) (by omega) (by omega))
  have hat15 := hat15.trans (congrArg some (show _ = (.long (0 : Int64)) from (by rw [own_tn (by omega)]; exact if_neg (by omega))))
  refine own_by (B := T7.setTop (mkF m 81 #[.val (.ref r0), .val (.ref b5), .val (.int (31 : Int32)), .val (.ref b), .val (.int (16 : Int32)), .val (.int (Int32.ofNat 0)), .val (.long (g 0)), .second, .val (.int (Int32.ofNat 0))] [(.long (0 : Int64))])) (fun t k => X7.laload hx (j := (Int32.ofNat 0)) (v := (.long (0 : Int64))) (by rw [e7]; exact Ar15.1) (State.isArrayOf_alike hZ.alike Ar15.2.1) Ar15.2.2 hin15 hat15 (g := (mkF m 80 #[.val (.ref r0), .val (.ref b5), .val (.int (31 : Int32)), .val (.ref b), .val (.int (16 : Int32)), .val (.int (Int32.ofNat 0)), .val (.long (g 0)), .second, .val (.int (Int32.ofNat 0))] [(.int (Int32.ofNat 0)), (.ref b5)])) rfl rfl (hb hby d7_80) _ k) ?_
  refine own_by (B := T7.setTop (mkF m 82 #[.val (.ref r0), .val (.ref b5), .val (.int (31 : Int32)), .val (.ref b), .val (.int (16 : Int32)), .val (.int (Int32.ofNat 0)), .val (.long (g 0)), .second, .val (.int (Int32.ofNat 0))] [(.long (0 : Int64)), (.long (0 : Int64))])) (fun t k => XS.lconst X7.here hx rfl (hb hby d7_81) k) ?_
  refine own_by (B := T7.setTop (mkF m 83 #[.val (.ref r0), .val (.ref b5), .val (.int (31 : Int32)), .val (.ref b), .val (.int (16 : Int32)), .val (.int (Int32.ofNat 0)), .val (.long (g 0)), .second, .val (.int (Int32.ofNat 0))] [(.int (0 : Int32))])) (fun t k => XS.lcmp X7.here hx rfl (hb hby d7_82) rfl k) ?_
  refine own_by (B := T7.setTop (mkF m 97 #[.val (.ref r0), .val (.ref b5), .val (.int (31 : Int32)), .val (.ref b), .val (.int (16 : Int32)), .val (.int (Int32.ofNat 0)), .val (.long (g 0)), .second, .val (.int (Int32.ofNat 0))] [])) (fun t k => XS.ifYes X7.here hx rfl (pc0 := 83) (pc' := 97) rfl (hb hby d7_83) rfl ((if0 _ _).trans (teq (by decide)).1) (by decide) (by decide) k) ?_
  refine own_by (B := T7.setTop (mkF m 98 #[.val (.ref r0), .val (.ref b5), .val (.int (31 : Int32)), .val (.ref b), .val (.int (16 : Int32)), .val (.int (Int32.ofNat 0)), .val (.long (g 0)), .second, .val (.int (Int32.ofNat 0))] [(.ref b5)])) (fun t k => XS.aloadN X7.here hx rfl (hb hby d7_97) rfl rfl k) ?_
  refine own_by (B := T7.setTop (mkF m 100 #[.val (.ref r0), .val (.ref b5), .val (.int (31 : Int32)), .val (.ref b), .val (.int (16 : Int32)), .val (.int (Int32.ofNat 0)), .val (.long (g 0)), .second, .val (.int (Int32.ofNat 0))] [(.int (Int32.ofNat 0)), (.ref b5)])) (fun t k => XS.iload X7.here hx rfl (hb hby d7_98) rfl k) ?_
  refine own_by (B := T7.setTop (mkF m 102 #[.val (.ref r0), .val (.ref b5), .val (.int (31 : Int32)), .val (.ref b), .val (.int (16 : Int32)), .val (.int (Int32.ofNat 0)), .val (.long (g 0)), .second, .val (.int (Int32.ofNat 0))] [(.long (g 0)), (.int (Int32.ofNat 0)), (.ref b5)])) (fun t k => XS.lload X7.here hx rfl (hb hby d7_100) rfl k) ?_
  obtain ⟨cl16, Ar16, hin16, -⟩ := V_b5.at (j := (Int32.ofNat 0)) (own_in (i := 0) (m := 32) (by omega) (by omega))
  obtain ⟨T16, h16, X16, e16, W16, st16⟩ := stJ X7 hx hZ e7 Ar16 (j := (Int32.ofNat 0)) hin16 (g := (mkF m 102 #[.val (.ref r0), .val (.ref b5), .val (.int (31 : Int32)), .val (.ref b), .val (.int (16 : Int32)), .val (.int (Int32.ofNat 0)), .val (.long (g 0)), .second, .val (.int (Int32.ofNat 0))] [(.long (g 0)), (.int (Int32.ofNat 0)), (.ref b5)])) rfl rfl (hb hby d7_102)
  have E_r0 := E_r0.wr W16
  have F_slots_r0 := F_slots_r0.other W16 (Or.inl ne_r0_b5)
  have V_b := V_b.other W16 ne_b_b5
  have V_b5 := V_b5.set W16
  have Zs : n0 ≤ h16.size := by rw [W16.size]; exact Zs
  have Kp := Kp.wr W16 (Or.inr sz_b5)
  have Nf := Fr.snoc X16 Nf g_b5
  refine own_by (B := T16.setTop (mkF m 103 #[.val (.ref r0), .val (.ref b5), .val (.int (31 : Int32)), .val (.ref b), .val (.int (16 : Int32)), .val (.int (Int32.ofNat 0)), .val (.long (g 0)), .second, .val (.int (Int32.ofNat 0))] [])) st16 ?_
  have V_b5 := V_b5.congr (g := own_mid g 1) (fun t _ => own_mid_next (by omega) t)
  refine own_by (B := T16.setTop (mkF m 106 #[.val (.ref r0), .val (.ref b5), .val (.int (31 : Int32)), .val (.ref b), .val (.int (16 : Int32)), .val (.int ((Int32.ofNat 0) + (1 : Int32))), .val (.long (g 0)), .second, .val (.int (Int32.ofNat 0))] [])) (fun t k => XS.iinc X16.here hx rfl (hb hby d7_103) rfl (l' := #[.val (.ref r0), .val (.ref b5), .val (.int (31 : Int32)), .val (.ref b), .val (.int (16 : Int32)), .val (.int ((Int32.ofNat 0) + (1 : Int32))), .val (.long (g 0)), .second, .val (.int (Int32.ofNat 0))]) rfl k) ?_
  refine own_by (B := T16.setTop (mkF m 47 #[.val (.ref r0), .val (.ref b5), .val (.int (31 : Int32)), .val (.ref b), .val (.int (16 : Int32)), .val (.int ((Int32.ofNat 0) + (1 : Int32))), .val (.long (g 0)), .second, .val (.int (Int32.ofNat 0))] [])) (fun t k => XS.goto X16.here hx rfl (pc0 := 106) (pc' := 47) rfl (hb hby d7_106) (by decide) (by decide) k) ?_
  exact loop 15 1 _ _ T16 h16 _ X16 e16 Nf Zs Kp E_r0 F_slots_r0 V_b V_b5 (by omega) (by omega)
theorem d6_0 : decode prog_159_method_6_code 0 = .ok (.aload_n 0, 1) := by decide +kernel
theorem d6_1 : decode prog_159_method_6_code 1 = .ok (.getfield 9, 3) := by decide +kernel
theorem d6_4 : decode prog_159_method_6_code 4 = .ok (.iload_n 1, 1) := by decide +kernel
theorem d6_5 : decode prog_159_method_6_code 5 = .ok (.iload_n 2, 1) := by decide +kernel
theorem d6_6 : decode prog_159_method_6_code 6 = .ok (.i2l, 1) := by decide +kernel
theorem d6_7 : decode prog_159_method_6_code 7 = .ok (.bipush 32, 2) := by decide +kernel
theorem d6_9 : decode prog_159_method_6_code 9 = .ok (.lshl, 1) := by decide +kernel
theorem d6_10 : decode prog_159_method_6_code 10 = .ok (.iload_n 3, 1) := by decide +kernel
theorem d6_11 : decode prog_159_method_6_code 11 = .ok (.iconst 1, 1) := by decide +kernel
theorem d6_12 : decode prog_159_method_6_code 12 = .ok (.iadd, 1) := by decide +kernel
theorem d6_13 : decode prog_159_method_6_code 13 = .ok (.i2l, 1) := by decide +kernel
theorem d6_14 : decode prog_159_method_6_code 14 = .ok (.lor, 1) := by decide +kernel
theorem d6_15 : decode prog_159_method_6_code 15 = .ok (.lastore, 1) := by decide +kernel
theorem d6_16 : decode prog_159_method_6_code 16 = .ok (.aload_n 0, 1) := by decide +kernel
theorem d6_17 : decode prog_159_method_6_code 17 = .ok (.dup, 1) := by decide +kernel
theorem d6_18 : decode prog_159_method_6_code 18 = .ok (.getfield 13, 3) := by decide +kernel
theorem d6_21 : decode prog_159_method_6_code 21 = .ok (.iconst 1, 1) := by decide +kernel
theorem d6_22 : decode prog_159_method_6_code 22 = .ok (.iadd, 1) := by decide +kernel
theorem d6_23 : decode prog_159_method_6_code 23 = .ok (.putfield 13, 3) := by decide +kernel
theorem d6_26 : decode prog_159_method_6_code 26 = .ok (.iconst 2, 1) := by decide +kernel
theorem d6_27 : decode prog_159_method_6_code 27 = .ok (.aload_n 0, 1) := by decide +kernel
theorem d6_28 : decode prog_159_method_6_code 28 = .ok (.getfield 13, 3) := by decide +kernel
theorem d6_31 : decode prog_159_method_6_code 31 = .ok (.imul, 1) := by decide +kernel
theorem d6_32 : decode prog_159_method_6_code 32 = .ok (.aload_n 0, 1) := by decide +kernel
theorem d6_33 : decode prog_159_method_6_code 33 = .ok (.getfield 9, 3) := by decide +kernel
theorem d6_36 : decode prog_159_method_6_code 36 = .ok (.arraylength, 1) := by decide +kernel
theorem d6_37 : decode prog_159_method_6_code 37 = .ok (.if_icmp .le 7, 3) := by decide +kernel
theorem d6_44 : decode prog_159_method_6_code 44 = .ok (.return_, 1) := by decide +kernel
theorem ef_rmA (m : MethodId) (x0 : Addr) (x1 : Int32) (x2 : Int32) (x3 : Int32) : entryFrame m #[(.ref x0), (.int x1), (.int x2), (.int x3)] 4 = mkF m 0 #[.val (.ref x0), .val (.int x1), .val (.int x2), .val (.int x3)] [] := by first | (simp [entryFrame, mkF, argsToLocals, Value.category]; done) | rfl
def Q_rmA (Z : State) (r0 : Addr) (i : Nat) (i2 i3 : Int32) (b : Addr) (s0 : Nat) (f : Nat → Value) (h0 : Heap) (n0 : Nat) (v : Option Value) (h : Heap) (L : List Loc) : Prop := v = none ∧ Fr n0 L ∧ Keep h0 h [r0, b] ∧ Fld Z h r0 "com/example/bivista/bivista/rows/HashSlots" "size" "I" (.int (Int32.ofNat (s0 + 1))) ∧ Fld Z h r0 "com/example/bivista/bivista/rows/HashSlots" "slots" "[J" (.ref b) ∧ own_Arf Z h b .long (16 : Int32) (fun t => if t = i then .long (own_h i2 i3) else f t)
set_option maxRecDepth 65536 in
set_option maxHeartbeats 40000000 in
theorem rmA (l : Launch) (Z : State) (a0 : Array Value) (hw : ∀ d ∈ tables_1, d.before a0 Z = true) (ws : List Jvm.Cond) (r0 : Addr) (i : Nat) (i2 i3 : Int32) (b : Addr) (s0 : Nat) (f : Nat → Value) (h0 : Heap) (n0 : Nat) (Z0 : n0 ≤ h0.size) (E_r0 : Exa Z h0 r0 "com/example/bivista/bivista/rows/HashSlots") (F_size_r0 : Fld Z h0 r0 "com/example/bivista/bivista/rows/HashSlots" "size" "I" (.int (Int32.ofNat s0))) (F_slots_r0 : Fld Z h0 r0 "com/example/bivista/bivista/rows/HashSlots" "slots" "[J" (.ref b)) (g_r0 : n0 ≤ r0) (g_b : n0 ≤ b) (ne_r0_b : r0 ≠ b) (hi : i < 16) (hs : s0 < 8) (V_b : own_Arf Z h0 b .long (16 : Int32) f) :
    MetFree l (⟨"com/example/bivista/bivista/rows/HashSlots", "add", "(III)V"⟩ : MethodName) (head1 (Jvm.Cond.code (⟨"com/example/bivista/bivista/rows/HashSlots", "add", "(III)V"⟩ : MethodName) prog_159_method_6_code 4 none :: ws) ({ frames := 0, cells := 0, slots := 0, locals := 0 } : Room)) (fun a U => a = #[(.ref r0), (.int (Int32.ofNat i)), (.int i2), (.int i3)] ∧ Z.Warmed39 U.vm ∧ U.heap = h0) (fun _ _ _ _ _ => True) (fun _ U o U' => ∃ v L, o = .returned v ∧ Q_rmA Z r0 i i2 i3 b s0 f h0 n0 v U'.heap L ∧ FrameEnd U o U' L ({ frames := 0, cells := 0, slots := 0, locals := 0 } : Room).cells ({ frames := 0, cells := 0, slots := 0, locals := 0 } : Room).slots) := by
  refine MetFree.of_bodySF (plainFor_of_name own_pn0) hisR ?_
  intro p e s m args below meth c s₁ Bd hml0 hP hK
  obtain ⟨rfl, hZ, hh⟩ := hP
  have hx := Bd.exec
  have hby := Bd.bytes
  have hml : c.maxLocals = 4 := hml0
  have hown : s.vm.findClass "com/example/bivista/bivista/rows/HashSlots" = some m.cls := findClass_of_methodNamed Bd.named
  have hnm := (name_of_methodNamed Bd.named Bd.method).1
  have X0 : Stand p l e ({ frames := 0, cells := 0, slots := 0, locals := 0 } : Room) s m #[(.ref r0), (.int (Int32.ofNat i)), (.int i2), (.int i3)] below meth c s₁ [] 0 0 := Stand.of_body Bd
  have e0 : s₁.heap = h0 := by rw [← hh, Bd.state]; rfl
  show own_Go p e below (s₁.setTop (entryFrame m #[(.ref r0), (.int (Int32.ofNat i)), (.int i2), (.int i3)] 4)) (fun t o => ∃ v L, o = .returned v ∧ Q_rmA Z r0 i i2 i3 b s0 f h0 n0 v t.heap L ∧ FrameEnd s o t L ({ frames := 0, cells := 0, slots := 0, locals := 0 } : Room).cells ({ frames := 0, cells := 0, slots := 0, locals := 0 } : Room).slots)
  refine own_by (B := s₁.setTop (mkF m 0 #[.val (.ref r0), .val (.int (Int32.ofNat i)), .val (.int i2), .val (.int i3)] [])) (fun t k => castTop (ef_rmA m r0 (Int32.ofNat i) i2 i3) k) ?_
  have Nf := Fr.nil n0
  have Zs := Z0
  have Kp := Keep.refl h0 [r0, b]
  refine own_by (B := s₁.setTop (mkF m 1 #[.val (.ref r0), .val (.int (Int32.ofNat i)), .val (.int i2), .val (.int i3)] [(.ref r0)])) (fun t k => XS.aloadN X0.here hx rfl (hb hby d6_0) rfl rfl k) ?_
  obtain ⟨T1, X1, e1, st1⟩ := getF X0 hx hZ hown (host := "") (Or.inl (hw _ (List.mem_of_getElem? (i := 11) rfl))) Via.refl e0 F_slots_r0 (g := (mkF m 1 #[.val (.ref r0), .val (.int (Int32.ofNat i)), .val (.int i2), .val (.int i3)] [(.ref r0)])) rfl rfl (hb hby d6_1)
  refine own_by (B := T1.setTop (mkF m 4 #[.val (.ref r0), .val (.int (Int32.ofNat i)), .val (.int i2), .val (.int i3)] [(.ref b)])) st1 ?_
  refine own_by (B := T1.setTop (mkF m 5 #[.val (.ref r0), .val (.int (Int32.ofNat i)), .val (.int i2), .val (.int i3)] [(.int (Int32.ofNat i)), (.ref b)])) (fun t k => XS.iloadN X1.here hx rfl (hb hby d6_4) rfl k) ?_
  refine own_by (B := T1.setTop (mkF m 6 #[.val (.ref r0), .val (.int (Int32.ofNat i)), .val (.int i2), .val (.int i3)] [(.int i2), (.int (Int32.ofNat i)), (.ref b)])) (fun t k => XS.iloadN X1.here hx rfl (hb hby d6_5) rfl k) ?_
  refine own_by (B := T1.setTop (mkF m 7 #[.val (.ref r0), .val (.int (Int32.ofNat i)), .val (.int i2), .val (.int i3)] [(.long (i2.toInt64)), (.int (Int32.ofNat i)), (.ref b)])) (fun t k => XS.i2l X1.here hx rfl (hb hby d6_6) rfl k) ?_
  refine own_by (B := T1.setTop (mkF m 9 #[.val (.ref r0), .val (.int (Int32.ofNat i)), .val (.int i2), .val (.int i3)] [(.int (32 : Int32)), (.long (i2.toInt64)), (.int (Int32.ofNat i)), (.ref b)])) (fun t k => XS.bipush X1.here hx rfl (hb hby d6_7) k) ?_
  refine own_by (B := T1.setTop (mkF m 10 #[.val (.ref r0), .val (.int (Int32.ofNat i)), .val (.int i2), .val (.int i3)] [(.long ((i2.toInt64) <<< ((32 : Int32) &&& 0x3f).toInt64)), (.int (Int32.ofNat i)), (.ref b)])) (fun t k => XS.lshl X1.here hx rfl (hb hby d6_9) rfl k) ?_
  refine own_by (B := T1.setTop (mkF m 11 #[.val (.ref r0), .val (.int (Int32.ofNat i)), .val (.int i2), .val (.int i3)] [(.int i3), (.long ((i2.toInt64) <<< ((32 : Int32) &&& 0x3f).toInt64)), (.int (Int32.ofNat i)), (.ref b)])) (fun t k => XS.iloadN X1.here hx rfl (hb hby d6_10) rfl k) ?_
  refine own_by (B := T1.setTop (mkF m 12 #[.val (.ref r0), .val (.int (Int32.ofNat i)), .val (.int i2), .val (.int i3)] [(.int (1 : Int32)), (.int i3), (.long ((i2.toInt64) <<< ((32 : Int32) &&& 0x3f).toInt64)), (.int (Int32.ofNat i)), (.ref b)])) (fun t k => XS.iconst X1.here hx rfl (hb hby d6_11) k) ?_
  refine own_by (B := T1.setTop (mkF m 13 #[.val (.ref r0), .val (.int (Int32.ofNat i)), .val (.int i2), .val (.int i3)] [(.int (i3 + (1 : Int32))), (.long ((i2.toInt64) <<< ((32 : Int32) &&& 0x3f).toInt64)), (.int (Int32.ofNat i)), (.ref b)])) (fun t k => XS.iadd X1.here hx rfl (hb hby d6_12) rfl k) ?_
  refine own_by (B := T1.setTop (mkF m 14 #[.val (.ref r0), .val (.int (Int32.ofNat i)), .val (.int i2), .val (.int i3)] [(.long ((i3 + (1 : Int32)).toInt64)), (.long ((i2.toInt64) <<< ((32 : Int32) &&& 0x3f).toInt64)), (.int (Int32.ofNat i)), (.ref b)])) (fun t k => XS.i2l X1.here hx rfl (hb hby d6_13) rfl k) ?_
  refine own_by (B := T1.setTop (mkF m 15 #[.val (.ref r0), .val (.int (Int32.ofNat i)), .val (.int i2), .val (.int i3)] [(.long (((i2.toInt64) <<< ((32 : Int32) &&& 0x3f).toInt64) ||| ((i3 + (1 : Int32)).toInt64))), (.int (Int32.ofNat i)), (.ref b)])) (fun t k => XS.lor X1.here hx rfl (hb hby d6_14) rfl k) ?_
  obtain ⟨cl2, Ar2, hin2, -⟩ := V_b.at (j := (Int32.ofNat i)) (own_in (m := 16) (by omega) (by omega))
  obtain ⟨T2, h2, X2, e2, W2, st2⟩ := stJ X1 hx hZ e1 Ar2 (j := (Int32.ofNat i)) hin2 (g := (mkF m 15 #[.val (.ref r0), .val (.int (Int32.ofNat i)), .val (.int i2), .val (.int i3)] [(.long (((i2.toInt64) <<< ((32 : Int32) &&& 0x3f).toInt64) ||| ((i3 + (1 : Int32)).toInt64))), (.int (Int32.ofNat i)), (.ref b)])) rfl rfl (hb hby d6_15)
  have E_r0 := E_r0.wr W2
  have F_size_r0 := F_size_r0.other W2 (Or.inl ne_r0_b)
  have F_slots_r0 := F_slots_r0.other W2 (Or.inl ne_r0_b)
  have V_b := V_b.set W2
  have Zs : n0 ≤ h2.size := by rw [W2.size]; exact Zs
  have Kp := Kp.wr W2 (Or.inl (List.mem_of_getElem? (i := 1) rfl))
  have Nf := Fr.snoc X2 Nf g_b
  refine own_by (B := T2.setTop (mkF m 16 #[.val (.ref r0), .val (.int (Int32.ofNat i)), .val (.int i2), .val (.int i3)] [])) st2 ?_
  refine own_by (B := T2.setTop (mkF m 17 #[.val (.ref r0), .val (.int (Int32.ofNat i)), .val (.int i2), .val (.int i3)] [(.ref r0)])) (fun t k => XS.aloadN X2.here hx rfl (hb hby d6_16) rfl rfl k) ?_
  refine own_by (B := T2.setTop (mkF m 18 #[.val (.ref r0), .val (.int (Int32.ofNat i)), .val (.int i2), .val (.int i3)] [(.ref r0), (.ref r0)])) (fun t k => XS.dup X2.here hx rfl (hb hby d6_17) rfl rfl k) ?_
  obtain ⟨T3, X3, e3, st3⟩ := getF X2 hx hZ hown (host := "") (Or.inl (hw _ (List.mem_of_getElem? (i := 28) rfl))) Via.refl e2 F_size_r0 (g := (mkF m 18 #[.val (.ref r0), .val (.int (Int32.ofNat i)), .val (.int i2), .val (.int i3)] [(.ref r0), (.ref r0)])) rfl rfl (hb hby d6_18)
  refine own_by (B := T3.setTop (mkF m 21 #[.val (.ref r0), .val (.int (Int32.ofNat i)), .val (.int i2), .val (.int i3)] [(.int (Int32.ofNat s0)), (.ref r0)])) st3 ?_
  refine own_by (B := T3.setTop (mkF m 22 #[.val (.ref r0), .val (.int (Int32.ofNat i)), .val (.int i2), .val (.int i3)] [(.int (1 : Int32)), (.int (Int32.ofNat s0)), (.ref r0)])) (fun t k => XS.iconst X3.here hx rfl (hb hby d6_21) k) ?_
  refine own_by (B := T3.setTop (mkF m 23 #[.val (.ref r0), .val (.int (Int32.ofNat i)), .val (.int i2), .val (.int i3)] [(.int ((Int32.ofNat s0) + (1 : Int32))), (.ref r0)])) (fun t k => XS.iadd X3.here hx rfl (hb hby d6_22) rfl k) ?_
  rw [show ((Int32.ofNat s0) + (1 : Int32)) = (Int32.ofNat (s0 + 1)) from own_a1 s0]
  obtain ⟨T4, h4, X4, e4, W4, st4⟩ := putF X3 hx hZ hown (host := "") (Or.inl (hw _ (List.mem_of_getElem? (i := 28) rfl))) Via.refl e3 F_size_r0 E_r0 (Or.inl (hw _ (List.mem_of_getElem? (i := 29) rfl))) (hw _ (List.mem_of_getElem? (i := 2) rfl)) (ty := .int) (by decide) rfl rfl (g := (mkF m 23 #[.val (.ref r0), .val (.int (Int32.ofNat i)), .val (.int i2), .val (.int i3)] [(.int (Int32.ofNat (s0 + 1))), (.ref r0)])) rfl rfl (hb hby d6_23)
  have E_r0 := E_r0.wr W4
  have F_size_r0 := F_size_r0.same W4
  have F_slots_r0 := F_slots_r0.other W4 (Or.inr (slot_ne (Or.inl (hw _ (List.mem_of_getElem? (i := 12) rfl))) (Or.inl (hw _ (List.mem_of_getElem? (i := 29) rfl))) (by decide) (t := (.array .long)) (t' := .int) (by decide) (by decide)))
  have V_b := V_b.other W4 (Ne.symm ne_r0_b)
  have Zs : n0 ≤ h4.size := by rw [W4.size]; exact Zs
  have Kp := Kp.wr W4 (Or.inl (List.mem_of_getElem? (i := 0) rfl))
  have Nf := Fr.snoc X4 Nf g_r0
  refine own_by (B := T4.setTop (mkF m 26 #[.val (.ref r0), .val (.int (Int32.ofNat i)), .val (.int i2), .val (.int i3)] [])) st4 ?_
  refine own_by (B := T4.setTop (mkF m 27 #[.val (.ref r0), .val (.int (Int32.ofNat i)), .val (.int i2), .val (.int i3)] [(.int (2 : Int32))])) (fun t k => XS.iconst X4.here hx rfl (hb hby d6_26) k) ?_
  refine own_by (B := T4.setTop (mkF m 28 #[.val (.ref r0), .val (.int (Int32.ofNat i)), .val (.int i2), .val (.int i3)] [(.ref r0), (.int (2 : Int32))])) (fun t k => XS.aloadN X4.here hx rfl (hb hby d6_27) rfl rfl k) ?_
  obtain ⟨T5, X5, e5, st5⟩ := getF X4 hx hZ hown (host := "") (Or.inl (hw _ (List.mem_of_getElem? (i := 28) rfl))) Via.refl e4 F_size_r0 (g := (mkF m 28 #[.val (.ref r0), .val (.int (Int32.ofNat i)), .val (.int i2), .val (.int i3)] [(.ref r0), (.int (2 : Int32))])) rfl rfl (hb hby d6_28)
  refine own_by (B := T5.setTop (mkF m 31 #[.val (.ref r0), .val (.int (Int32.ofNat i)), .val (.int i2), .val (.int i3)] [(.int (Int32.ofNat (s0 + 1))), (.int (2 : Int32))])) st5 ?_
  refine own_by (B := T5.setTop (mkF m 32 #[.val (.ref r0), .val (.int (Int32.ofNat i)), .val (.int i2), .val (.int i3)] [(.int ((2 : Int32) * (Int32.ofNat (s0 + 1))))])) (fun t k => XS.imul X5.here hx rfl (hb hby d6_31) rfl k) ?_
  rw [show ((2 : Int32) * (Int32.ofNat (s0 + 1))) = (Int32.ofNat (2 * (s0 + 1))) from own_m2 (s0 + 1)]
  refine own_by (B := T5.setTop (mkF m 33 #[.val (.ref r0), .val (.int (Int32.ofNat i)), .val (.int i2), .val (.int i3)] [(.ref r0), (.int (Int32.ofNat (2 * (s0 + 1))))])) (fun t k => XS.aloadN X5.here hx rfl (hb hby d6_32) rfl rfl k) ?_
  obtain ⟨T6, X6, e6, st6⟩ := getF X5 hx hZ hown (host := "") (Or.inl (hw _ (List.mem_of_getElem? (i := 11) rfl))) Via.refl e5 F_slots_r0 (g := (mkF m 33 #[.val (.ref r0), .val (.int (Int32.ofNat i)), .val (.int i2), .val (.int i3)] [(.ref r0), (.int (Int32.ofNat (2 * (s0 + 1))))])) rfl rfl (hb hby d6_33)
  refine own_by (B := T6.setTop (mkF m 36 #[.val (.ref r0), .val (.int (Int32.ofNat i)), .val (.int i2), .val (.int i3)] [(.ref b), (.int (Int32.ofNat (2 * (s0 + 1))))])) st6 ?_
  obtain ⟨cl7, Ar7, Sz7, Ng7, -⟩ := id V_b
  refine own_by (B := T6.setTop (mkF m 37 #[.val (.ref r0), .val (.int (Int32.ofNat i)), .val (.int i2), .val (.int i3)] [(.int (16 : Int32)), (.int (Int32.ofNat (2 * (s0 + 1))))])) (fun t k => X6.arraylength hx (by rw [e6]; exact Ar7.1) (State.isArrayOf_alike hZ.alike Ar7.2.1) (g := (mkF m 36 #[.val (.ref r0), .val (.int (Int32.ofNat i)), .val (.int i2), .val (.int i3)] [(.ref b), (.int (Int32.ofNat (2 * (s0 + 1))))])) rfl rfl (hb hby d6_36) _ (by rw [len_of Sz7 Ng7]; exact k)) ?_
  refine own_by (B := T6.setTop (mkF m 44 #[.val (.ref r0), .val (.int (Int32.ofNat i)), .val (.int i2), .val (.int i3)] [])) (fun t k => XS.icmpYes X6.here hx rfl (pc0 := 37) (pc' := 44) rfl (hb hby d6_37) rfl (flt (fun q => absurd q (by rw [Int32.lt_iff_toInt_lt, own_ofNat_int (by omega)]; show ¬ (16 : Int) < _; omega))).2.2.2 (by decide) (by decide) k) ?_
  exact own_end X6 (v := none) (fun _ => rfl) (BodyLoose.notSynchronized Bd) (Q := (Q_rmA Z r0 i i2 i3 b s0 f h0 n0)) (fun fs hr => X6.returnOut hx Bd.returns (hb hby d6_44) hr) (show (Q_rmA Z r0 i i2 i3 b s0 f h0 n0) _ T6.heap _ from (by rw [e6]; exact ⟨rfl, Nf, Kp, F_size_r0, F_slots_r0, V_b.congr (fun t _ => by rw [own_tn (by omega)]; rfl)⟩)) (by decide) (by decide)
theorem own_pd0 : parseMethodDescriptor "()V" = some ⟨[], none⟩ := by decide +kernel
theorem d6_40 : decode prog_159_method_6_code 40 = .ok (.aload_n 0, 1) := by decide +kernel
theorem d6_41 : decode prog_159_method_6_code 41 = .ok (.invokevirtual 17, 3) := by decide +kernel
theorem ef_rmAG (m : MethodId) (x0 : Addr) (x1 : Int32) (x2 : Int32) (x3 : Int32) : entryFrame m #[(.ref x0), (.int x1), (.int x2), (.int x3)] 4 = mkF m 0 #[.val (.ref x0), .val (.int x1), .val (.int x2), .val (.int x3)] [] := by first | (simp [entryFrame, mkF, argsToLocals, Value.category]; done) | rfl
def Q_rmAG (Z : State) (r0 : Addr) (i : Nat) (i2 i3 : Int32) (b : Addr) (s0 : Nat) (f : Nat → Value) (g : Nat → Int64) (h0 : Heap) (n0 : Nat) (v : Option Value) (h : Heap) (L : List Loc) : Prop := v = none ∧ Fr n0 L ∧ Keep h0 h [r0, b] ∧ ∃ b' f', Fld Z h r0 "com/example/bivista/bivista/rows/HashSlots" "slots" "[J" (.ref b') ∧ own_Arf Z h b' .long (32 : Int32) f'
set_option maxRecDepth 65536 in
set_option maxHeartbeats 40000000 in
theorem rmAG (l : Launch) (Z : State) (a0 : Array Value) (hw : ∀ d ∈ tables_1, d.before a0 Z = true) (ws : List Jvm.Cond) (r0 : Addr) (i : Nat) (i2 i3 : Int32) (b : Addr) (s0 : Nat) (f : Nat → Value) (g : Nat → Int64) (h0 : Heap) (n0 : Nat) (Z0 : n0 ≤ h0.size) (E_r0 : Exa Z h0 r0 "com/example/bivista/bivista/rows/HashSlots") (F_size_r0 : Fld Z h0 r0 "com/example/bivista/bivista/rows/HashSlots" "size" "I" (.int (Int32.ofNat s0))) (F_slots_r0 : Fld Z h0 r0 "com/example/bivista/bivista/rows/HashSlots" "slots" "[J" (.ref b)) (g_r0 : n0 ≤ r0) (g_b : n0 ≤ b) (ne_r0_b : r0 ≠ b) (hi : i < 16) (hs : s0 = 8) (V_b : own_Arf Z h0 b .long (16 : Int32) f) (hgf : ∀ t, t < 16 → (if t = i then .long (own_h i2 i3) else f t) = (if t < 9 then .long (g t) else .long 0)) (hg9 : ∀ t, t < 9 → ¬ g t = 0 ∧ (((g t).toUInt64 >>> ((32 : Int32) &&& 0x3f).toInt64.toUInt64).toInt64).toInt32 &&& (31 : Int32) = Int32.ofNat t) :
    MetFree l (⟨"com/example/bivista/bivista/rows/HashSlots", "add", "(III)V"⟩ : MethodName) (head1 (Jvm.Cond.code (⟨"com/example/bivista/bivista/rows/HashSlots", "add", "(III)V"⟩ : MethodName) prog_159_method_6_code 4 none :: ws) ({ frames := 1, cells := 1, slots := 32, locals := 20 } : Room)) (fun a U => a = #[(.ref r0), (.int (Int32.ofNat i)), (.int i2), (.int i3)] ∧ Z.Warmed39 U.vm ∧ U.heap = h0) (fun _ _ _ _ _ => True) (fun _ U o U' => ∃ v L, o = .returned v ∧ Q_rmAG Z r0 i i2 i3 b s0 f g h0 n0 v U'.heap L ∧ FrameEnd U o U' L ({ frames := 1, cells := 1, slots := 32, locals := 20 } : Room).cells ({ frames := 1, cells := 1, slots := 32, locals := 20 } : Room).slots) := by
  refine MetFree.of_bodySF (plainFor_of_name own_pn0) hisR ?_
  intro p e s m args below meth c s₁ Bd hml0 hP hK
  obtain ⟨rfl, hZ, hh⟩ := hP
  have hx := Bd.exec
  have hby := Bd.bytes
  have hml : c.maxLocals = 4 := hml0
  have hown : s.vm.findClass "com/example/bivista/bivista/rows/HashSlots" = some m.cls := findClass_of_methodNamed Bd.named
  have hnm := (name_of_methodNamed Bd.named Bd.method).1
  have X0 : Stand p l e ({ frames := 1, cells := 1, slots := 32, locals := 20 } : Room) s m #[(.ref r0), (.int (Int32.ofNat i)), (.int i2), (.int i3)] below meth c s₁ [] 0 0 := Stand.of_body Bd
  have e0 : s₁.heap = h0 := by rw [← hh, Bd.state]; rfl
  show own_Go p e below (s₁.setTop (entryFrame m #[(.ref r0), (.int (Int32.ofNat i)), (.int i2), (.int i3)] 4)) (fun t o => ∃ v L, o = .returned v ∧ Q_rmAG Z r0 i i2 i3 b s0 f g h0 n0 v t.heap L ∧ FrameEnd s o t L ({ frames := 1, cells := 1, slots := 32, locals := 20 } : Room).cells ({ frames := 1, cells := 1, slots := 32, locals := 20 } : Room).slots)
  refine own_by (B := s₁.setTop (mkF m 0 #[.val (.ref r0), .val (.int (Int32.ofNat i)), .val (.int i2), .val (.int i3)] [])) (fun t k => castTop (ef_rmAG m r0 (Int32.ofNat i) i2 i3) k) ?_
  have Nf := Fr.nil n0
  have Zs := Z0
  have Kp := Keep.refl h0 [r0, b]
  refine own_by (B := s₁.setTop (mkF m 1 #[.val (.ref r0), .val (.int (Int32.ofNat i)), .val (.int i2), .val (.int i3)] [(.ref r0)])) (fun t k => XS.aloadN X0.here hx rfl (hb hby d6_0) rfl rfl k) ?_
  obtain ⟨T1, X1, e1, st1⟩ := getF X0 hx hZ hown (host := "") (Or.inl (hw _ (List.mem_of_getElem? (i := 11) rfl))) Via.refl e0 F_slots_r0 (g := (mkF m 1 #[.val (.ref r0), .val (.int (Int32.ofNat i)), .val (.int i2), .val (.int i3)] [(.ref r0)])) rfl rfl (hb hby d6_1)
  refine own_by (B := T1.setTop (mkF m 4 #[.val (.ref r0), .val (.int (Int32.ofNat i)), .val (.int i2), .val (.int i3)] [(.ref b)])) st1 ?_
  refine own_by (B := T1.setTop (mkF m 5 #[.val (.ref r0), .val (.int (Int32.ofNat i)), .val (.int i2), .val (.int i3)] [(.int (Int32.ofNat i)), (.ref b)])) (fun t k => XS.iloadN X1.here hx rfl (hb hby d6_4) rfl k) ?_
  refine own_by (B := T1.setTop (mkF m 6 #[.val (.ref r0), .val (.int (Int32.ofNat i)), .val (.int i2), .val (.int i3)] [(.int i2), (.int (Int32.ofNat i)), (.ref b)])) (fun t k => XS.iloadN X1.here hx rfl (hb hby d6_5) rfl k) ?_
  refine own_by (B := T1.setTop (mkF m 7 #[.val (.ref r0), .val (.int (Int32.ofNat i)), .val (.int i2), .val (.int i3)] [(.long (i2.toInt64)), (.int (Int32.ofNat i)), (.ref b)])) (fun t k => XS.i2l X1.here hx rfl (hb hby d6_6) rfl k) ?_
  refine own_by (B := T1.setTop (mkF m 9 #[.val (.ref r0), .val (.int (Int32.ofNat i)), .val (.int i2), .val (.int i3)] [(.int (32 : Int32)), (.long (i2.toInt64)), (.int (Int32.ofNat i)), (.ref b)])) (fun t k => XS.bipush X1.here hx rfl (hb hby d6_7) k) ?_
  refine own_by (B := T1.setTop (mkF m 10 #[.val (.ref r0), .val (.int (Int32.ofNat i)), .val (.int i2), .val (.int i3)] [(.long ((i2.toInt64) <<< ((32 : Int32) &&& 0x3f).toInt64)), (.int (Int32.ofNat i)), (.ref b)])) (fun t k => XS.lshl X1.here hx rfl (hb hby d6_9) rfl k) ?_
  refine own_by (B := T1.setTop (mkF m 11 #[.val (.ref r0), .val (.int (Int32.ofNat i)), .val (.int i2), .val (.int i3)] [(.int i3), (.long ((i2.toInt64) <<< ((32 : Int32) &&& 0x3f).toInt64)), (.int (Int32.ofNat i)), (.ref b)])) (fun t k => XS.iloadN X1.here hx rfl (hb hby d6_10) rfl k) ?_
  refine own_by (B := T1.setTop (mkF m 12 #[.val (.ref r0), .val (.int (Int32.ofNat i)), .val (.int i2), .val (.int i3)] [(.int (1 : Int32)), (.int i3), (.long ((i2.toInt64) <<< ((32 : Int32) &&& 0x3f).toInt64)), (.int (Int32.ofNat i)), (.ref b)])) (fun t k => XS.iconst X1.here hx rfl (hb hby d6_11) k) ?_
  refine own_by (B := T1.setTop (mkF m 13 #[.val (.ref r0), .val (.int (Int32.ofNat i)), .val (.int i2), .val (.int i3)] [(.int (i3 + (1 : Int32))), (.long ((i2.toInt64) <<< ((32 : Int32) &&& 0x3f).toInt64)), (.int (Int32.ofNat i)), (.ref b)])) (fun t k => XS.iadd X1.here hx rfl (hb hby d6_12) rfl k) ?_
  refine own_by (B := T1.setTop (mkF m 14 #[.val (.ref r0), .val (.int (Int32.ofNat i)), .val (.int i2), .val (.int i3)] [(.long ((i3 + (1 : Int32)).toInt64)), (.long ((i2.toInt64) <<< ((32 : Int32) &&& 0x3f).toInt64)), (.int (Int32.ofNat i)), (.ref b)])) (fun t k => XS.i2l X1.here hx rfl (hb hby d6_13) rfl k) ?_
  refine own_by (B := T1.setTop (mkF m 15 #[.val (.ref r0), .val (.int (Int32.ofNat i)), .val (.int i2), .val (.int i3)] [(.long (((i2.toInt64) <<< ((32 : Int32) &&& 0x3f).toInt64) ||| ((i3 + (1 : Int32)).toInt64))), (.int (Int32.ofNat i)), (.ref b)])) (fun t k => XS.lor X1.here hx rfl (hb hby d6_14) rfl k) ?_
  obtain ⟨cl2, Ar2, hin2, -⟩ := V_b.at (j := (Int32.ofNat i)) (own_in (m := 16) (by omega) (by omega))
  obtain ⟨T2, h2, X2, e2, W2, st2⟩ := stJ X1 hx hZ e1 Ar2 (j := (Int32.ofNat i)) hin2 (g := (mkF m 15 #[.val (.ref r0), .val (.int (Int32.ofNat i)), .val (.int i2), .val (.int i3)] [(.long (((i2.toInt64) <<< ((32 : Int32) &&& 0x3f).toInt64) ||| ((i3 + (1 : Int32)).toInt64))), (.int (Int32.ofNat i)), (.ref b)])) rfl rfl (hb hby d6_15)
  have E_r0 := E_r0.wr W2
  have F_size_r0 := F_size_r0.other W2 (Or.inl ne_r0_b)
  have F_slots_r0 := F_slots_r0.other W2 (Or.inl ne_r0_b)
  have V_b := V_b.set W2
  have Zs : n0 ≤ h2.size := by rw [W2.size]; exact Zs
  have Kp := Kp.wr W2 (Or.inl (List.mem_of_getElem? (i := 1) rfl))
  have Nf := Fr.snoc X2 Nf g_b
  refine own_by (B := T2.setTop (mkF m 16 #[.val (.ref r0), .val (.int (Int32.ofNat i)), .val (.int i2), .val (.int i3)] [])) st2 ?_
  refine own_by (B := T2.setTop (mkF m 17 #[.val (.ref r0), .val (.int (Int32.ofNat i)), .val (.int i2), .val (.int i3)] [(.ref r0)])) (fun t k => XS.aloadN X2.here hx rfl (hb hby d6_16) rfl rfl k) ?_
  refine own_by (B := T2.setTop (mkF m 18 #[.val (.ref r0), .val (.int (Int32.ofNat i)), .val (.int i2), .val (.int i3)] [(.ref r0), (.ref r0)])) (fun t k => XS.dup X2.here hx rfl (hb hby d6_17) rfl rfl k) ?_
  obtain ⟨T3, X3, e3, st3⟩ := getF X2 hx hZ hown (host := "") (Or.inl (hw _ (List.mem_of_getElem? (i := 28) rfl))) Via.refl e2 F_size_r0 (g := (mkF m 18 #[.val (.ref r0), .val (.int (Int32.ofNat i)), .val (.int i2), .val (.int i3)] [(.ref r0), (.ref r0)])) rfl rfl (hb hby d6_18)
  refine own_by (B := T3.setTop (mkF m 21 #[.val (.ref r0), .val (.int (Int32.ofNat i)), .val (.int i2), .val (.int i3)] [(.int (Int32.ofNat s0)), (.ref r0)])) st3 ?_
  refine own_by (B := T3.setTop (mkF m 22 #[.val (.ref r0), .val (.int (Int32.ofNat i)), .val (.int i2), .val (.int i3)] [(.int (1 : Int32)), (.int (Int32.ofNat s0)), (.ref r0)])) (fun t k => XS.iconst X3.here hx rfl (hb hby d6_21) k) ?_
  refine own_by (B := T3.setTop (mkF m 23 #[.val (.ref r0), .val (.int (Int32.ofNat i)), .val (.int i2), .val (.int i3)] [(.int ((Int32.ofNat s0) + (1 : Int32))), (.ref r0)])) (fun t k => XS.iadd X3.here hx rfl (hb hby d6_22) rfl k) ?_
  rw [show ((Int32.ofNat s0) + (1 : Int32)) = (Int32.ofNat (s0 + 1)) from own_a1 s0]
  obtain ⟨T4, h4, X4, e4, W4, st4⟩ := putF X3 hx hZ hown (host := "") (Or.inl (hw _ (List.mem_of_getElem? (i := 28) rfl))) Via.refl e3 F_size_r0 E_r0 (Or.inl (hw _ (List.mem_of_getElem? (i := 29) rfl))) (hw _ (List.mem_of_getElem? (i := 2) rfl)) (ty := .int) (by decide) rfl rfl (g := (mkF m 23 #[.val (.ref r0), .val (.int (Int32.ofNat i)), .val (.int i2), .val (.int i3)] [(.int (Int32.ofNat (s0 + 1))), (.ref r0)])) rfl rfl (hb hby d6_23)
  have E_r0 := E_r0.wr W4
  have F_size_r0 := F_size_r0.same W4
  have F_slots_r0 := F_slots_r0.other W4 (Or.inr (slot_ne (Or.inl (hw _ (List.mem_of_getElem? (i := 12) rfl))) (Or.inl (hw _ (List.mem_of_getElem? (i := 29) rfl))) (by decide) (t := (.array .long)) (t' := .int) (by decide) (by decide)))
  have V_b := V_b.other W4 (Ne.symm ne_r0_b)
  have Zs : n0 ≤ h4.size := by rw [W4.size]; exact Zs
  have Kp := Kp.wr W4 (Or.inl (List.mem_of_getElem? (i := 0) rfl))
  have Nf := Fr.snoc X4 Nf g_r0
  refine own_by (B := T4.setTop (mkF m 26 #[.val (.ref r0), .val (.int (Int32.ofNat i)), .val (.int i2), .val (.int i3)] [])) st4 ?_
  refine own_by (B := T4.setTop (mkF m 27 #[.val (.ref r0), .val (.int (Int32.ofNat i)), .val (.int i2), .val (.int i3)] [(.int (2 : Int32))])) (fun t k => XS.iconst X4.here hx rfl (hb hby d6_26) k) ?_
  refine own_by (B := T4.setTop (mkF m 28 #[.val (.ref r0), .val (.int (Int32.ofNat i)), .val (.int i2), .val (.int i3)] [(.ref r0), (.int (2 : Int32))])) (fun t k => XS.aloadN X4.here hx rfl (hb hby d6_27) rfl rfl k) ?_
  obtain ⟨T5, X5, e5, st5⟩ := getF X4 hx hZ hown (host := "") (Or.inl (hw _ (List.mem_of_getElem? (i := 28) rfl))) Via.refl e4 F_size_r0 (g := (mkF m 28 #[.val (.ref r0), .val (.int (Int32.ofNat i)), .val (.int i2), .val (.int i3)] [(.ref r0), (.int (2 : Int32))])) rfl rfl (hb hby d6_28)
  refine own_by (B := T5.setTop (mkF m 31 #[.val (.ref r0), .val (.int (Int32.ofNat i)), .val (.int i2), .val (.int i3)] [(.int (Int32.ofNat (s0 + 1))), (.int (2 : Int32))])) st5 ?_
  refine own_by (B := T5.setTop (mkF m 32 #[.val (.ref r0), .val (.int (Int32.ofNat i)), .val (.int i2), .val (.int i3)] [(.int ((2 : Int32) * (Int32.ofNat (s0 + 1))))])) (fun t k => XS.imul X5.here hx rfl (hb hby d6_31) rfl k) ?_
  rw [show ((2 : Int32) * (Int32.ofNat (s0 + 1))) = (Int32.ofNat (2 * (s0 + 1))) from own_m2 (s0 + 1)]
  refine own_by (B := T5.setTop (mkF m 33 #[.val (.ref r0), .val (.int (Int32.ofNat i)), .val (.int i2), .val (.int i3)] [(.ref r0), (.int (Int32.ofNat (2 * (s0 + 1))))])) (fun t k => XS.aloadN X5.here hx rfl (hb hby d6_32) rfl rfl k) ?_
  obtain ⟨T6, X6, e6, st6⟩ := getF X5 hx hZ hown (host := "") (Or.inl (hw _ (List.mem_of_getElem? (i := 11) rfl))) Via.refl e5 F_slots_r0 (g := (mkF m 33 #[.val (.ref r0), .val (.int (Int32.ofNat i)), .val (.int i2), .val (.int i3)] [(.ref r0), (.int (Int32.ofNat (2 * (s0 + 1))))])) rfl rfl (hb hby d6_33)
  refine own_by (B := T6.setTop (mkF m 36 #[.val (.ref r0), .val (.int (Int32.ofNat i)), .val (.int i2), .val (.int i3)] [(.ref b), (.int (Int32.ofNat (2 * (s0 + 1))))])) st6 ?_
  obtain ⟨cl7, Ar7, Sz7, Ng7, -⟩ := id V_b
  refine own_by (B := T6.setTop (mkF m 37 #[.val (.ref r0), .val (.int (Int32.ofNat i)), .val (.int i2), .val (.int i3)] [(.int (16 : Int32)), (.int (Int32.ofNat (2 * (s0 + 1))))])) (fun t k => X6.arraylength hx (by rw [e6]; exact Ar7.1) (State.isArrayOf_alike hZ.alike Ar7.2.1) (g := (mkF m 36 #[.val (.ref r0), .val (.int (Int32.ofNat i)), .val (.int i2), .val (.int i3)] [(.ref b), (.int (Int32.ofNat (2 * (s0 + 1))))])) rfl rfl (hb hby d6_36) _ (by rw [len_of Sz7 Ng7]; exact k)) ?_
  refine own_by (B := T6.setTop (mkF m 40 #[.val (.ref r0), .val (.int (Int32.ofNat i)), .val (.int i2), .val (.int i3)] [])) (fun t k => XS.icmpNo X6.here hx rfl (hb hby d6_37) rfl (tlt (own_ltN (i := 16) (by omega) (by omega))).2.2.2 k) ?_
  refine own_by (B := T6.setTop (mkF m 41 #[.val (.ref r0), .val (.int (Int32.ofNat i)), .val (.int i2), .val (.int i3)] [(.ref r0)])) (fun t k => XS.aloadN X6.here hx rfl (hb hby d6_40) rfl rfl k) ?_
  have V_b := V_b.congr (g := fun t => if t < 9 then .long (g t) else .long 0) (fun t ht => by
    rw [own_tn (by omega)]
    exact hgf t ht)
  obtain ⟨cq8, q8, q8'⟩ := E_r0.cell
  obtain ⟨_, _, ⟨T8, L8, k8, n8⟩, -, X8, ⟨Lc8, hQ8, l8, y8, z8⟩, st8⟩ := X6.privateBack hx (y := (⟨"com/example/bivista/bivista/rows/HashSlots", "grow", "()V"⟩ : MethodName)) hown (mvT hZ (hw _ (List.mem_of_getElem? (i := 36) rfl))) (mvT hZ (hw _ (List.mem_of_getElem? (i := 37) rfl))) (own_selp hZ (hw _ (List.mem_of_getElem? (i := 2) rfl)) (hw _ (List.mem_of_getElem? (i := 37) rfl)) (hw _ (List.mem_of_getElem? (i := 38) rfl)) (by decide)) (Cond.privateMethod_at (mvP hZ (hw _ (List.mem_of_getElem? (i := 38) rfl)) (args := #[]))) (mvT hZ (hw _ (List.mem_of_getElem? (i := 39) rfl))) (by decide) (backOf (W := 0) (rmG l Z a0 hw [] r0 b g h4 n0 Zs E_r0 F_slots_r0 V_b g_r0 ne_r0_b hg9) hZ (hw _ (List.mem_of_getElem? (i := 39) rfl)) (hw _ (List.mem_of_getElem? (i := 3) rfl)) (by decide) (by decide)) (g := (mkF m 41 #[.val (.ref r0), .val (.int (Int32.ofNat i)), .val (.int i2), .val (.int i3)] [(.ref r0)])) rfl (by rw [hml]; rfl) (Steps.refl _) (a := r0) (by rw [e6]; exact q8) q8' (argsL := []) (rest := []) (lenOf own_pd0 rfl) rfl (by show 2 * 0 + _ ≤ _; exact Nat.le_of_eq rfl) (hb hby d6_41) (fun _ _ => ⟨rfl, e6, (by decide : 0 + 1 ≤ _), (by decide : 0 + 32 ≤ _)⟩)
  dsimp only [Pt.U, Pt.locs, Pt.cells, Pt.slots] at X8 l8 y8 z8 st8 hQ8
  subst l8 y8 z8
  obtain ⟨rfl, Nq8, Kc8, b8, f8, Fc8, Vc8⟩ := hQ8
  have Nf := Fr.app Nf Nq8
  have E_r0 := E_r0.keep Kc8
  have V_b := V_b.keep Kc8 (ninS (Ne.symm ne_r0_b) nin0)
  have Zs := Nat.le_trans Zs Kc8.1
  have Kp := Kp.trans Kc8 (allS (Or.inl (List.mem_of_getElem? (i := 0) rfl)) all0)
  refine own_by (B := T8.setTop (mkF m 44 #[.val (.ref r0), .val (.int (Int32.ofNat i)), .val (.int i2), .val (.int i3)] [])) (fun t k => st8.trans k) ?_
  exact own_end X8 (v := none) (fun _ => rfl) (BodyLoose.notSynchronized Bd) (Q := (Q_rmAG Z r0 i i2 i3 b s0 f g h0 n0)) (fun fs hr => X8.returnOut hx Bd.returns (hb hby d6_44) hr) (show (Q_rmAG Z r0 i i2 i3 b s0 f g h0 n0) _ T8.heap _ from (⟨rfl, Nf, Kp, _, _, Fc8, Vc8⟩)) (by decide) (by decide)
theorem own_pd1 : parseMethodDescriptor "(III)V" = some ⟨[.int, .int, .int], none⟩ := by decide +kernel
theorem d3_0 : decode method_3_code 0 = .ok (.iload_n 2, 1) := by decide +kernel
theorem d3_1 : decode method_3_code 1 = .ok (.iload_n 1, 1) := by decide +kernel
theorem d3_2 : decode method_3_code 2 = .ok (.if_icmp .ge 21, 3) := by decide +kernel
theorem d3_5 : decode method_3_code 5 = .ok (.aload_n 0, 1) := by decide +kernel
theorem d3_6 : decode method_3_code 6 = .ok (.iload_n 2, 1) := by decide +kernel
theorem d3_7 : decode method_3_code 7 = .ok (.iload_n 3, 1) := by decide +kernel
theorem d3_8 : decode method_3_code 8 = .ok (.iconst 2, 1) := by decide +kernel
theorem d3_9 : decode method_3_code 9 = .ok (.iload_n 2, 1) := by decide +kernel
theorem d3_10 : decode method_3_code 10 = .ok (.imul, 1) := by decide +kernel
theorem d3_11 : decode method_3_code 11 = .ok (.iconst 1, 1) := by decide +kernel
theorem d3_12 : decode method_3_code 12 = .ok (.iadd, 1) := by decide +kernel
theorem d3_13 : decode method_3_code 13 = .ok (.imul, 1) := by decide +kernel
theorem d3_14 : decode method_3_code 14 = .ok (.bipush (-32), 2) := by decide +kernel
theorem d3_16 : decode method_3_code 16 = .ok (.iand, 1) := by decide +kernel
theorem d3_17 : decode method_3_code 17 = .ok (.iload_n 2, 1) := by decide +kernel
theorem d3_18 : decode method_3_code 18 = .ok (.ior, 1) := by decide +kernel
theorem d3_19 : decode method_3_code 19 = .ok (.iload_n 2, 1) := by decide +kernel
theorem d3_20 : decode method_3_code 20 = .ok (.invokevirtual 24, 3) := by decide +kernel
theorem d3_23 : decode method_3_code 23 = .ok (.return_, 1) := by decide +kernel
theorem own_pn1 : plainName "com/example/bivista/bivista/rows/HashSlotsBytesToAddPinLaw" = true := by first | (simp [plainName, overriddenIn]; done) | decide +kernel
theorem ef_rmF (m : MethodId) (x0 : Addr) (x1 : Int32) (x2 : Int32) (x3 : Int32) : entryFrame m #[(.ref x0), (.int x1), (.int x2), (.int x3)] 4 = mkF m 0 #[.val (.ref x0), .val (.int x1), .val (.int x2), .val (.int x3)] [] := by first | (simp [entryFrame, mkF, argsToLocals, Value.category]; done) | rfl
def Q_rmF (Z : State) (r0 : Addr) (n i : Nat) (i3 : Int32) (b : Addr) (h0 : Heap) (n0 : Nat) (v : Option Value) (h : Heap) (L : List Loc) : Prop := v = none ∧ Fr n0 L ∧ Keep h0 h [r0, b] ∧ Fld Z h r0 "com/example/bivista/bivista/rows/HashSlots" "size" "I" (.int (Int32.ofNat (min (i + 1) n))) ∧ Fld Z h r0 "com/example/bivista/bivista/rows/HashSlots" "slots" "[J" (.ref b) ∧ own_Arf Z h b .long (16 : Int32) (own_sl i3 (min (i + 1) n))
set_option maxRecDepth 65536 in
set_option maxHeartbeats 40000000 in
theorem rmF (l : Launch) (Z : State) (a0 : Array Value) (hw : ∀ d ∈ tables_1, d.before a0 Z = true) (ws : List Jvm.Cond) (r0 : Addr) (n i : Nat) (i3 : Int32) (b : Addr) (h0 : Heap) (n0 : Nat) (Z0 : n0 ≤ h0.size) (E_r0 : Exa Z h0 r0 "com/example/bivista/bivista/rows/HashSlots") (F_size_r0 : Fld Z h0 r0 "com/example/bivista/bivista/rows/HashSlots" "size" "I" (.int (Int32.ofNat (min i n)))) (F_slots_r0 : Fld Z h0 r0 "com/example/bivista/bivista/rows/HashSlots" "slots" "[J" (.ref b)) (g_r0 : n0 ≤ r0) (g_b : n0 ≤ b) (ne_r0_b : r0 ≠ b) (hi8 : i < 8) (hn9 : n < 9) (V_b : own_Arf Z h0 b .long (16 : Int32) (own_sl i3 (min i n))) :
    MetFree l (⟨"com/example/bivista/bivista/rows/HashSlotsBytesToAddPinLaw", "fill", "(Lcom/example/bivista/bivista/rows/HashSlots;III)V"⟩ : MethodName) (head1 (Jvm.Cond.code (⟨"com/example/bivista/bivista/rows/HashSlotsBytesToAddPinLaw", "fill", "(Lcom/example/bivista/bivista/rows/HashSlots;III)V"⟩ : MethodName) method_3_code 4 none :: ws) ({ frames := 1, cells := 0, slots := 0, locals := 15 } : Room)) (fun a U => a = #[(.ref r0), (.int (Int32.ofNat n)), (.int (Int32.ofNat i)), (.int i3)] ∧ Z.Warmed39 U.vm ∧ U.heap = h0) (fun _ _ _ _ _ => True) (fun _ U o U' => ∃ v L, o = .returned v ∧ Q_rmF Z r0 n i i3 b h0 n0 v U'.heap L ∧ FrameEnd U o U' L ({ frames := 1, cells := 0, slots := 0, locals := 15 } : Room).cells ({ frames := 1, cells := 0, slots := 0, locals := 15 } : Room).slots) := by
  refine MetFree.of_bodySF (plainFor_of_name own_pn1) hisR ?_
  intro p e s m args below meth c s₁ Bd hml0 hP hK
  obtain ⟨rfl, hZ, hh⟩ := hP
  have hx := Bd.exec
  have hby := Bd.bytes
  have hml : c.maxLocals = 4 := hml0
  have hown : s.vm.findClass "com/example/bivista/bivista/rows/HashSlotsBytesToAddPinLaw" = some m.cls := findClass_of_methodNamed Bd.named
  have hnm := (name_of_methodNamed Bd.named Bd.method).1
  have X0 : Stand p l e ({ frames := 1, cells := 0, slots := 0, locals := 15 } : Room) s m #[(.ref r0), (.int (Int32.ofNat n)), (.int (Int32.ofNat i)), (.int i3)] below meth c s₁ [] 0 0 := Stand.of_body Bd
  have e0 : s₁.heap = h0 := by rw [← hh, Bd.state]; rfl
  show own_Go p e below (s₁.setTop (entryFrame m #[(.ref r0), (.int (Int32.ofNat n)), (.int (Int32.ofNat i)), (.int i3)] 4)) (fun t o => ∃ v L, o = .returned v ∧ Q_rmF Z r0 n i i3 b h0 n0 v t.heap L ∧ FrameEnd s o t L ({ frames := 1, cells := 0, slots := 0, locals := 15 } : Room).cells ({ frames := 1, cells := 0, slots := 0, locals := 15 } : Room).slots)
  refine own_by (B := s₁.setTop (mkF m 0 #[.val (.ref r0), .val (.int (Int32.ofNat n)), .val (.int (Int32.ofNat i)), .val (.int i3)] [])) (fun t k => castTop (ef_rmF m r0 (Int32.ofNat n) (Int32.ofNat i) i3) k) ?_
  have Nf := Fr.nil n0
  have Zs := Z0
  have Kp := Keep.refl h0 [r0, b]
  refine own_by (B := s₁.setTop (mkF m 1 #[.val (.ref r0), .val (.int (Int32.ofNat n)), .val (.int (Int32.ofNat i)), .val (.int i3)] [(.int (Int32.ofNat i))])) (fun t k => XS.iloadN X0.here hx rfl (hb hby d3_0) rfl k) ?_
  refine own_by (B := s₁.setTop (mkF m 2 #[.val (.ref r0), .val (.int (Int32.ofNat n)), .val (.int (Int32.ofNat i)), .val (.int i3)] [(.int (Int32.ofNat n)), (.int (Int32.ofNat i))])) (fun t k => XS.iloadN X0.here hx rfl (hb hby d3_1) rfl k) ?_
  by_cases hin : i < n
  · refine own_by (B := s₁.setTop (mkF m 5 #[.val (.ref r0), .val (.int (Int32.ofNat n)), .val (.int (Int32.ofNat i)), .val (.int i3)] [])) (fun t k => XS.icmpNo X0.here hx rfl (hb hby d3_2) rfl (tlt (own_ltN hin (by omega))).2.1 k) ?_
    have em : min i n = i := by omega
    have en : min (i + 1) n = i + 1 := by omega
    rw [em] at F_size_r0 V_b
    refine own_by (B := s₁.setTop (mkF m 6 #[.val (.ref r0), .val (.int (Int32.ofNat n)), .val (.int (Int32.ofNat i)), .val (.int i3)] [(.ref r0)])) (fun t k => XS.aloadN X0.here hx rfl (hb hby d3_5) rfl rfl k) ?_
    refine own_by (B := s₁.setTop (mkF m 7 #[.val (.ref r0), .val (.int (Int32.ofNat n)), .val (.int (Int32.ofNat i)), .val (.int i3)] [(.int (Int32.ofNat i)), (.ref r0)])) (fun t k => XS.iloadN X0.here hx rfl (hb hby d3_6) rfl k) ?_
    refine own_by (B := s₁.setTop (mkF m 8 #[.val (.ref r0), .val (.int (Int32.ofNat n)), .val (.int (Int32.ofNat i)), .val (.int i3)] [(.int i3), (.int (Int32.ofNat i)), (.ref r0)])) (fun t k => XS.iloadN X0.here hx rfl (hb hby d3_7) rfl k) ?_
    refine own_by (B := s₁.setTop (mkF m 9 #[.val (.ref r0), .val (.int (Int32.ofNat n)), .val (.int (Int32.ofNat i)), .val (.int i3)] [(.int (2 : Int32)), (.int i3), (.int (Int32.ofNat i)), (.ref r0)])) (fun t k => XS.iconst X0.here hx rfl (hb hby d3_8) k) ?_
    refine own_by (B := s₁.setTop (mkF m 10 #[.val (.ref r0), .val (.int (Int32.ofNat n)), .val (.int (Int32.ofNat i)), .val (.int i3)] [(.int (Int32.ofNat i)), (.int (2 : Int32)), (.int i3), (.int (Int32.ofNat i)), (.ref r0)])) (fun t k => XS.iloadN X0.here hx rfl (hb hby d3_9) rfl k) ?_
    refine own_by (B := s₁.setTop (mkF m 11 #[.val (.ref r0), .val (.int (Int32.ofNat n)), .val (.int (Int32.ofNat i)), .val (.int i3)] [(.int ((2 : Int32) * (Int32.ofNat i))), (.int i3), (.int (Int32.ofNat i)), (.ref r0)])) (fun t k => XS.imul X0.here hx rfl (hb hby d3_10) rfl k) ?_
    refine own_by (B := s₁.setTop (mkF m 12 #[.val (.ref r0), .val (.int (Int32.ofNat n)), .val (.int (Int32.ofNat i)), .val (.int i3)] [(.int (1 : Int32)), (.int ((2 : Int32) * (Int32.ofNat i))), (.int i3), (.int (Int32.ofNat i)), (.ref r0)])) (fun t k => XS.iconst X0.here hx rfl (hb hby d3_11) k) ?_
    refine own_by (B := s₁.setTop (mkF m 13 #[.val (.ref r0), .val (.int (Int32.ofNat n)), .val (.int (Int32.ofNat i)), .val (.int i3)] [(.int (((2 : Int32) * (Int32.ofNat i)) + (1 : Int32))), (.int i3), (.int (Int32.ofNat i)), (.ref r0)])) (fun t k => XS.iadd X0.here hx rfl (hb hby d3_12) rfl k) ?_
    refine own_by (B := s₁.setTop (mkF m 14 #[.val (.ref r0), .val (.int (Int32.ofNat n)), .val (.int (Int32.ofNat i)), .val (.int i3)] [(.int (i3 * (((2 : Int32) * (Int32.ofNat i)) + (1 : Int32)))), (.int (Int32.ofNat i)), (.ref r0)])) (fun t k => XS.imul X0.here hx rfl (hb hby d3_13) rfl k) ?_
    refine own_by (B := s₁.setTop (mkF m 16 #[.val (.ref r0), .val (.int (Int32.ofNat n)), .val (.int (Int32.ofNat i)), .val (.int i3)] [(.int (-32 : Int32)), (.int (i3 * (((2 : Int32) * (Int32.ofNat i)) + (1 : Int32)))), (.int (Int32.ofNat i)), (.ref r0)])) (fun t k => XS.bipush X0.here hx rfl (hb hby d3_14) k) ?_
    refine own_by (B := s₁.setTop (mkF m 17 #[.val (.ref r0), .val (.int (Int32.ofNat n)), .val (.int (Int32.ofNat i)), .val (.int i3)] [(.int ((i3 * (((2 : Int32) * (Int32.ofNat i)) + (1 : Int32))) &&& (-32 : Int32))), (.int (Int32.ofNat i)), (.ref r0)])) (fun t k => XS.iand X0.here hx rfl (hb hby d3_16) rfl k) ?_
    refine own_by (B := s₁.setTop (mkF m 18 #[.val (.ref r0), .val (.int (Int32.ofNat n)), .val (.int (Int32.ofNat i)), .val (.int i3)] [(.int (Int32.ofNat i)), (.int ((i3 * (((2 : Int32) * (Int32.ofNat i)) + (1 : Int32))) &&& (-32 : Int32))), (.int (Int32.ofNat i)), (.ref r0)])) (fun t k => XS.iloadN X0.here hx rfl (hb hby d3_17) rfl k) ?_
    refine own_by (B := s₁.setTop (mkF m 19 #[.val (.ref r0), .val (.int (Int32.ofNat n)), .val (.int (Int32.ofNat i)), .val (.int i3)] [(.int (((i3 * (((2 : Int32) * (Int32.ofNat i)) + (1 : Int32))) &&& (-32 : Int32)) ||| (Int32.ofNat i))), (.int (Int32.ofNat i)), (.ref r0)])) (fun t k => XS.ior X0.here hx rfl (hb hby d3_18) rfl k) ?_
    refine own_by (B := s₁.setTop (mkF m 20 #[.val (.ref r0), .val (.int (Int32.ofNat n)), .val (.int (Int32.ofNat i)), .val (.int i3)] [(.int (Int32.ofNat i)), (.int (((i3 * (((2 : Int32) * (Int32.ofNat i)) + (1 : Int32))) &&& (-32 : Int32)) ||| (Int32.ofNat i))), (.int (Int32.ofNat i)), (.ref r0)])) (fun t k => XS.iloadN X0.here hx rfl (hb hby d3_19) rfl k) ?_
    obtain ⟨cq1, kq1, q1a, q1b, q1c⟩ := isOf hZ e0 E_r0
    obtain ⟨_, _, ⟨T1, L1, k1, n1⟩, -, X1, ⟨Lc1, hQ1, l1, y1, z1⟩, st1⟩ := X0.virtualBack hx (y := (⟨"com/example/bivista/bivista/rows/HashSlots", "add", "(III)V"⟩ : MethodName)) (z := (⟨"com/example/bivista/bivista/rows/HashSlots", "add", "(III)V"⟩ : MethodName)) hown (mvT hZ (hw _ (List.mem_of_getElem? (i := 30) rfl))) (mvT hZ (hw _ (List.mem_of_getElem? (i := 31) rfl))) (notFace_of_selects (args := #[]) (mvT hZ (hw _ (List.mem_of_getElem? (i := 33) rfl)))) (mvT hZ (hw _ (List.mem_of_getElem? (i := 33) rfl))) (mvT hZ (hw _ (List.mem_of_getElem? (i := 32) rfl))) (by decide) (backOf (W := 0) (rmA l Z a0 hw [] r0 i (((i3 * (((2 : Int32) * (Int32.ofNat i)) + (1 : Int32))) &&& (-32 : Int32)) ||| (Int32.ofNat i)) (Int32.ofNat i) b i (own_sl i3 i) h0 n0 Zs E_r0 F_size_r0 F_slots_r0 g_r0 g_b ne_r0_b (by omega) (by omega) V_b) hZ (hw _ (List.mem_of_getElem? (i := 34) rfl)) (hw _ (List.mem_of_getElem? (i := 3) rfl)) (by decide) (by decide)) q1a q1c (g := (mkF m 20 #[.val (.ref r0), .val (.int (Int32.ofNat n)), .val (.int (Int32.ofNat i)), .val (.int i3)] [(.int (Int32.ofNat i)), (.int (((i3 * (((2 : Int32) * (Int32.ofNat i)) + (1 : Int32))) &&& (-32 : Int32)) ||| (Int32.ofNat i))), (.int (Int32.ofNat i)), (.ref r0)])) rfl (by rw [hml]; rfl) (Steps.refl _) (argsL := [(.int (Int32.ofNat i)), (.int (((i3 * (((2 : Int32) * (Int32.ofNat i)) + (1 : Int32))) &&& (-32 : Int32)) ||| (Int32.ofNat i))), (.int (Int32.ofNat i))]) (rest := []) (lenOf own_pd1 rfl) rfl (by show 2 * 0 + _ ≤ _; exact Nat.le_of_eq rfl) (hb hby d3_20) (fun _ _ => ⟨rfl, e0, (by decide : 0 + 0 ≤ _), (by decide : 0 + 0 ≤ _)⟩)
    dsimp only [Pt.U, Pt.locs, Pt.cells, Pt.slots] at X1 l1 y1 z1 st1 hQ1
    subst l1 y1 z1
    obtain ⟨rfl, Nq1, Kc1, Fs1, Fb1, Vc1⟩ := hQ1
    have Nf := Fr.app Nf Nq1
    have E_r0 := E_r0.keep Kc1
    have Zs := Nat.le_trans Zs Kc1.1
    have Kp := Kp.trans Kc1 (allS (Or.inl (List.mem_of_getElem? (i := 0) rfl)) (allS (Or.inl (List.mem_of_getElem? (i := 1) rfl)) all0))
    have V_b := Vc1.congr (g := own_sl i3 (i + 1)) (fun t _ => by rw [← own_sl_next (c := i3) (i := i) (by omega) t, own_tn (by omega)]; rfl)
    rw [← en] at V_b Fs1
    refine own_by (B := T1.setTop (mkF m 23 #[.val (.ref r0), .val (.int (Int32.ofNat n)), .val (.int (Int32.ofNat i)), .val (.int i3)] [])) (fun t k => st1.trans k) ?_
    exact own_end X1 (v := none) (fun _ => rfl) (BodyLoose.notSynchronized Bd) (Q := (Q_rmF Z r0 n i i3 b h0 n0)) (fun fs hr => X1.returnOut hx Bd.returns (hb hby d3_23) hr) (show (Q_rmF Z r0 n i i3 b h0 n0) _ T1.heap _ from (⟨rfl, Nf, Kp, Fs1, Fb1, V_b⟩)) (by decide) (by decide)
  · refine own_by (B := s₁.setTop (mkF m 23 #[.val (.ref r0), .val (.int (Int32.ofNat n)), .val (.int (Int32.ofNat i)), .val (.int i3)] [])) (fun t k => XS.icmpYes X0.here hx rfl (pc0 := 2) (pc' := 23) rfl (hb hby d3_2) rfl (flt (fun q => absurd q (by rw [Int32.lt_iff_toInt_lt, own_ofNat_int (by omega), own_ofNat_int (by omega)]; omega))).2.1 (by decide) (by decide) k) ?_
    have em : min (i + 1) n = min i n := by omega
    rw [← em] at F_size_r0 V_b
    exact own_end X0 (v := none) (fun _ => rfl) (BodyLoose.notSynchronized Bd) (Q := (Q_rmF Z r0 n i i3 b h0 n0)) (fun fs hr => X0.returnOut hx Bd.returns (hb hby d3_23) hr) (show (Q_rmF Z r0 n i i3 b h0 n0) _ s₁.heap _ from (by rw [e0]; exact ⟨rfl, Nf, Keep.refl _ _, F_size_r0, F_slots_r0, V_b⟩)) (by decide) (by decide)
theorem own_pd2 : parseMethodDescriptor "(Lcom/example/bivista/bivista/rows/HashSlots;III)V" = some ⟨[(.object "com/example/bivista/bivista/rows/HashSlots"), .int, .int, .int], none⟩ := by decide +kernel
theorem own_pd3 : parseMethodDescriptor "()J" = some ⟨[], some .long⟩ := by decide +kernel
theorem ef_rm0 (m : MethodId) (x0 : Int32) (x1 : Int32) (x2 : Int32) : entryFrame m #[(.int x0), (.int x1), (.int x2)] maxLocals = mkF m 0 #[.val (.int x0), .val (.int x1), .val (.int x2), .unset, .unset, .unset, .unset, .unset, .unset, .unset, .unset, .unset, .unset] [] := by first | (simp [entryFrame, mkF, argsToLocals, Value.category, maxLocals]; done) | rfl
def Q_rm0 (Z : State) (i0 : Int32) (i1 : Int32) (i2 : Int32) (h0 : Heap) (n0 : Nat) (v : Option Value) (h : Heap) (L : List Loc) : Prop := v = some (.int 1) ∧ Fr n0 L
set_option maxRecDepth 65536 in
set_option maxHeartbeats 40000000 in
theorem rm0 (l : Launch) (Z : State) (a0 : Array Value) (hw : ∀ d ∈ tables_1, d.before a0 Z = true) (ws : List Jvm.Cond) (i0 : Int32) (i1 : Int32) (i2 : Int32) (h0 : Heap) (n0 : Nat) (Z0 : n0 ≤ h0.size)  :
    MetFree l x (head1 (Jvm.Cond.code x code maxLocals ret :: ws) room_1) (fun a U => a = #[(.int i0), (.int i1), (.int i2)] ∧ Z.Warmed39 U.vm ∧ U.heap = h0) (fun _ _ _ _ _ => True) (fun _ U o U' => ∃ v L, o = .returned v ∧ Q_rm0 Z i0 i1 i2 h0 n0 v U'.heap L ∧ FrameEnd U o U' L room_1.cells room_1.slots) := by
  refine MetFree.of_bodySF (plainFor_of_name own_pn1) hisR ?_
  intro p e s m args below meth c s₁ Bd hml0 hP hK
  obtain ⟨rfl, hZ, hh⟩ := hP
  have hx := Bd.exec
  have hby := Bd.bytes
  have hml : c.maxLocals = 13 := hml0
  have hown : s.vm.findClass "com/example/bivista/bivista/rows/HashSlotsBytesToAddPinLaw" = some m.cls := findClass_of_methodNamed Bd.named
  have hnm := (name_of_methodNamed Bd.named Bd.method).1
  have X0 : Stand p l e room_1 s m #[(.int i0), (.int i1), (.int i2)] below meth c s₁ [] 0 0 := Stand.of_body Bd
  have e0 : s₁.heap = h0 := by rw [← hh, Bd.state]; rfl
  show own_Go p e below (s₁.setTop (entryFrame m #[(.int i0), (.int i1), (.int i2)] maxLocals)) (fun t o => ∃ v L, o = .returned v ∧ Q_rm0 Z i0 i1 i2 h0 n0 v t.heap L ∧ FrameEnd s o t L room_1.cells room_1.slots)
  refine own_by (B := s₁.setTop (mkF m 0 #[.val (.int i0), .val (.int i1), .val (.int i2), .unset, .unset, .unset, .unset, .unset, .unset, .unset, .unset, .unset, .unset] [])) (fun t k => castTop (ef_rm0 m i0 i1 i2) k) ?_
  have Nf := Fr.nil n0
  have Zs := Z0
  refine own_by (B := s₁.setTop (mkF m 1 #[.val (.int i0), .val (.int i1), .val (.int i2), .unset, .unset, .unset, .unset, .unset, .unset, .unset, .unset, .unset, .unset] [(.int i0)])) (fun t k => XS.iloadN X0.here hx rfl (hb hby at_0) rfl k) ?_
  refine own_by (B := s₁.setTop (mkF m 3 #[.val (.int i0), .val (.int i1), .val (.int i2), .unset, .unset, .unset, .unset, .unset, .unset, .unset, .unset, .unset, .unset] [(.int (2147483647 : Int32)), (.int i0)])) (fun t k => X0.ldcInt hx hown (mvT hZ (hw _ (List.mem_of_getElem? (i := 0) rfl))) (g := (mkF m 1 #[.val (.int i0), .val (.int i1), .val (.int i2), .unset, .unset, .unset, .unset, .unset, .unset, .unset, .unset, .unset, .unset] [(.int i0)])) rfl (hb hby at_1) _ k) ?_
  refine own_by (B := s₁.setTop (mkF m 4 #[.val (.int i0), .val (.int i1), .val (.int i2), .unset, .unset, .unset, .unset, .unset, .unset, .unset, .unset, .unset, .unset] [(.int (i0 &&& (2147483647 : Int32)))])) (fun t k => XS.iand X0.here hx rfl (hb hby at_3) rfl k) ?_
  refine own_by (B := s₁.setTop (mkF m 6 #[.val (.int i0), .val (.int i1), .val (.int i2), .unset, .unset, .unset, .unset, .unset, .unset, .unset, .unset, .unset, .unset] [(.int (9 : Int32)), (.int (i0 &&& (2147483647 : Int32)))])) (fun t k => XS.bipush X0.here hx rfl (hb hby at_4) k) ?_
  refine own_by (B := s₁.setTop (mkF m 7 #[.val (.int i0), .val (.int i1), .val (.int i2), .unset, .unset, .unset, .unset, .unset, .unset, .unset, .unset, .unset, .unset] [(.int ((i0 &&& (2147483647 : Int32)) % (9 : Int32)))])) (fun t k => iremM (g := (mkF m 6 #[.val (.int i0), .val (.int i1), .val (.int i2), .unset, .unset, .unset, .unset, .unset, .unset, .unset, .unset, .unset, .unset] [(.int (9 : Int32)), (.int (i0 &&& (2147483647 : Int32)))])) X0 hx rfl (hb hby at_6) rfl (by decide) k) ?_
  refine own_by (B := s₁.setTop (mkF m 8 #[.val (.int i0), .val (.int i1), .val (.int i2), .val (.int ((i0 &&& (2147483647 : Int32)) % (9 : Int32))), .unset, .unset, .unset, .unset, .unset, .unset, .unset, .unset, .unset] [])) (fun t k => XS.istoreN X0.here hx rfl (hb hby at_7) rfl (l' := #[.val (.int i0), .val (.int i1), .val (.int i2), .val (.int ((i0 &&& (2147483647 : Int32)) % (9 : Int32))), .unset, .unset, .unset, .unset, .unset, .unset, .unset, .unset, .unset]) rfl k) ?_
  obtain ⟨n, hn9, hne⟩ := own_9 i0
  rw [show ((i0 &&& (2147483647 : Int32)) % (9 : Int32)) = (Int32.ofNat n) from hne]
  obtain ⟨T1, h1, X1, e1, E1, A1, D1, -, st1⟩ := newO X0 hx hZ hown (hw _ (List.mem_of_getElem? (i := 1) rfl)) (hw _ (List.mem_of_getElem? (i := 2) rfl)) (hw _ (List.mem_of_getElem? (i := 3) rfl)) e0 (g := (mkF m 8 #[.val (.int i0), .val (.int i1), .val (.int i2), .val (.int (Int32.ofNat n)), .unset, .unset, .unset, .unset, .unset, .unset, .unset, .unset, .unset] [])) rfl (hb hby at_8) (by decide) (by decide)
  obtain ⟨b1, gq1⟩ : ∃ z, z = h0.size := ⟨_, rfl⟩
  rw [← gq1] at A1 D1 st1
  have g_b1 : n0 ≤ b1 := Nat.le_trans Zs (Nat.le_of_eq gq1.symm)
  have Zs := Nat.le_trans Zs E1.1
  have E_b1 := A1
  have F_slots_b1 : Fld Z h1 b1 "com/example/bivista/bivista/rows/HashSlots" "slots" "[J" .null := D1 (Or.inl (hw _ (List.mem_of_getElem? (i := 12) rfl))) (ty := (.array .long)) (by decide)
  have F_size_b1 : Fld Z h1 b1 "com/example/bivista/bivista/rows/HashSlots" "size" "I" (.int (0 : Int32)) := D1 (Or.inl (hw _ (List.mem_of_getElem? (i := 29) rfl))) (ty := .int) (by decide)
  refine own_by (B := T1.setTop (mkF m 11 #[.val (.int i0), .val (.int i1), .val (.int i2), .val (.int (Int32.ofNat n)), .unset, .unset, .unset, .unset, .unset, .unset, .unset, .unset, .unset] [(.ref b1)])) st1 ?_
  refine own_by (B := T1.setTop (mkF m 12 #[.val (.int i0), .val (.int i1), .val (.int i2), .val (.int (Int32.ofNat n)), .unset, .unset, .unset, .unset, .unset, .unset, .unset, .unset, .unset] [(.ref b1), (.ref b1)])) (fun t k => XS.dup X1.here hx rfl (hb hby at_11) rfl rfl k) ?_
  obtain ⟨_, _, ⟨T2, L2, k2, n2⟩, -, X2, ⟨Lc2, hQ2, l2, y2, z2⟩, st2⟩ := X1.specialBack hx (y := (⟨"com/example/bivista/bivista/rows/HashSlots", "<init>", "()V"⟩ : MethodName)) rfl hown (mvT hZ (hw _ (List.mem_of_getElem? (i := 4) rfl))) (mvT hZ (hw _ (List.mem_of_getElem? (i := 5) rfl))) (mvT hZ (hw _ (List.mem_of_getElem? (i := 6) rfl))) (by decide) (backOf (W := 1) (rmI l Z a0 hw [] b1 h1 n0 Zs E_b1 F_size_b1 F_slots_b1 g_b1) hZ (hw _ (List.mem_of_getElem? (i := 6) rfl)) (hw _ (List.mem_of_getElem? (i := 3) rfl)) (by decide) (by decide)) (g := (mkF m 12 #[.val (.int i0), .val (.int i1), .val (.int i2), .val (.int (Int32.ofNat n)), .unset, .unset, .unset, .unset, .unset, .unset, .unset, .unset, .unset] [(.ref b1), (.ref b1)])) rfl (by rw [hml]; rfl) (Steps.refl _) (a := b1) (argsL := []) (rest := [(.ref b1)]) (lenOf own_pd0 rfl) rfl (by show 2 * 0 + _ ≤ _; exact Nat.le_of_eq rfl) (hb hby at_12) (fun _ _ => ⟨rfl, e1, (by decide : 1 + 1 ≤ _), (by decide : 2 + 16 ≤ _)⟩)
  dsimp only [Pt.U, Pt.locs, Pt.cells, Pt.slots] at X2 l2 y2 z2 st2 hQ2
  subst l2 y2 z2
  obtain ⟨rfl, Nq2, Kc2, Fs2, b2, g_b2, ne_b1_b2, Fb2, Vc2⟩ := hQ2
  have Nf := Fr.app Nf Nq2
  have E_b1 := E_b1.keep Kc2
  have Zs := Nat.le_trans Zs Kc2.1
  have F_size_b1 : Fld Z T2.heap b1 "com/example/bivista/bivista/rows/HashSlots" "size" "I" (.int (Int32.ofNat (min 0 n))) := by rw [Nat.zero_min]; exact Fs2
  have F_slots_b1 := Fb2
  have V_b2 : own_Arf Z T2.heap b2 .long (16 : Int32) (own_sl i1 (min 0 n)) := Vc2.congr (fun t _ => (if_neg (by omega)).symm)
  refine own_by (B := T2.setTop (mkF m 15 #[.val (.int i0), .val (.int i1), .val (.int i2), .val (.int (Int32.ofNat n)), .unset, .unset, .unset, .unset, .unset, .unset, .unset, .unset, .unset] [(.ref b1)])) (fun t k => st2.trans k) ?_
  refine own_by (B := T2.setTop (mkF m 17 #[.val (.int i0), .val (.int i1), .val (.int i2), .val (.int (Int32.ofNat n)), .val (.ref b1), .unset, .unset, .unset, .unset, .unset, .unset, .unset, .unset] [])) (fun t k => XS.astore X2.here hx rfl (hb hby at_15) rfl rfl (l' := #[.val (.int i0), .val (.int i1), .val (.int i2), .val (.int (Int32.ofNat n)), .val (.ref b1), .unset, .unset, .unset, .unset, .unset, .unset, .unset, .unset]) rfl k) ?_
  refine own_by (B := T2.setTop (mkF m 19 #[.val (.int i0), .val (.int i1), .val (.int i2), .val (.int (Int32.ofNat n)), .val (.ref b1), .unset, .unset, .unset, .unset, .unset, .unset, .unset, .unset] [(.ref b1)])) (fun t k => XS.aload X2.here hx rfl (hb hby at_17) rfl rfl k) ?_
  refine own_by (B := T2.setTop (mkF m 20 #[.val (.int i0), .val (.int i1), .val (.int i2), .val (.int (Int32.ofNat n)), .val (.ref b1), .unset, .unset, .unset, .unset, .unset, .unset, .unset, .unset] [(.int (Int32.ofNat n)), (.ref b1)])) (fun t k => XS.iloadN X2.here hx rfl (hb hby at_19) rfl k) ?_
  refine own_by (B := T2.setTop (mkF m 21 #[.val (.int i0), .val (.int i1), .val (.int i2), .val (.int (Int32.ofNat n)), .val (.ref b1), .unset, .unset, .unset, .unset, .unset, .unset, .unset, .unset] [(.int (0 : Int32)), (.int (Int32.ofNat n)), (.ref b1)])) (fun t k => XS.iconst X2.here hx rfl (hb hby at_20) k) ?_
  refine own_by (B := T2.setTop (mkF m 22 #[.val (.int i0), .val (.int i1), .val (.int i2), .val (.int (Int32.ofNat n)), .val (.ref b1), .unset, .unset, .unset, .unset, .unset, .unset, .unset, .unset] [(.int i1), (.int (0 : Int32)), (.int (Int32.ofNat n)), (.ref b1)])) (fun t k => XS.iloadN X2.here hx rfl (hb hby at_21) rfl k) ?_
  obtain ⟨_, _, ⟨T3, L3, k3, n3⟩, -, X3, ⟨Lc3, hQ3, l3, y3, z3⟩, st3⟩ := Jvm.LawKit.callS X2 hx (y := (⟨"com/example/bivista/bivista/rows/HashSlotsBytesToAddPinLaw", "fill", "(Lcom/example/bivista/bivista/rows/HashSlots;III)V"⟩ : MethodName)) hown (mvT hZ (hw _ (List.mem_of_getElem? (i := 13) rfl))) (mvT hZ (hw _ (List.mem_of_getElem? (i := 14) rfl))) (mvT hZ (hw _ (List.mem_of_getElem? (i := 15) rfl))) (mvT hZ (hw _ (List.mem_of_getElem? (i := 16) rfl))) (by decide) (backOf (W := 0) (rmF l Z a0 hw [] b1 n 0 i1 b2 T2.heap n0 Zs E_b1 F_size_b1 F_slots_b1 g_b1 g_b2 ne_b1_b2 (by omega) hn9 V_b2) hZ (hw _ (List.mem_of_getElem? (i := 16) rfl)) (hw _ (List.mem_of_getElem? (i := 15) rfl)) (by decide) (by decide)) (g := (mkF m 22 #[.val (.int i0), .val (.int i1), .val (.int i2), .val (.int (Int32.ofNat n)), .val (.ref b1), .unset, .unset, .unset, .unset, .unset, .unset, .unset, .unset] [(.int i1), (.int (0 : Int32)), (.int (Int32.ofNat n)), (.ref b1)])) rfl (by rw [hml]; rfl) (argsL := [(.ref b1), (.int (Int32.ofNat n)), (.int (0 : Int32)), (.int i1)]) (rest := []) (lenOf own_pd2 rfl) rfl (by show 2 * 0 + _ ≤ _; exact Nat.le_of_eq rfl) (hb hby at_22) (fun _ _ => ⟨rfl, rfl, (by decide : 2 + 0 ≤ _), (by decide : 18 + 0 ≤ _)⟩)
  dsimp only [Pt.U, Pt.locs, Pt.cells, Pt.slots] at X3 l3 y3 z3 st3 hQ3
  subst l3 y3 z3
  obtain ⟨rfl, Nq3, Kc3, Fs3, Fb3, Vc3⟩ := hQ3
  have Nf := Fr.app Nf Nq3
  have E_b1 := E_b1.keep Kc3
  have Zs := Nat.le_trans Zs Kc3.1
  have F_size_b1 := Fs3
  have F_slots_b1 := Fb3
  have V_b2 := Vc3
  refine own_by (B := T3.setTop (mkF m 25 #[.val (.int i0), .val (.int i1), .val (.int i2), .val (.int (Int32.ofNat n)), .val (.ref b1), .unset, .unset, .unset, .unset, .unset, .unset, .unset, .unset] [])) st3 ?_
  refine own_by (B := T3.setTop (mkF m 27 #[.val (.int i0), .val (.int i1), .val (.int i2), .val (.int (Int32.ofNat n)), .val (.ref b1), .unset, .unset, .unset, .unset, .unset, .unset, .unset, .unset] [(.ref b1)])) (fun t k => XS.aload X3.here hx rfl (hb hby at_25) rfl rfl k) ?_
  refine own_by (B := T3.setTop (mkF m 28 #[.val (.int i0), .val (.int i1), .val (.int i2), .val (.int (Int32.ofNat n)), .val (.ref b1), .unset, .unset, .unset, .unset, .unset, .unset, .unset, .unset] [(.int (Int32.ofNat n)), (.ref b1)])) (fun t k => XS.iloadN X3.here hx rfl (hb hby at_27) rfl k) ?_
  refine own_by (B := T3.setTop (mkF m 29 #[.val (.int i0), .val (.int i1), .val (.int i2), .val (.int (Int32.ofNat n)), .val (.ref b1), .unset, .unset, .unset, .unset, .unset, .unset, .unset, .unset] [(.int (1 : Int32)), (.int (Int32.ofNat n)), (.ref b1)])) (fun t k => XS.iconst X3.here hx rfl (hb hby at_28) k) ?_
  refine own_by (B := T3.setTop (mkF m 30 #[.val (.int i0), .val (.int i1), .val (.int i2), .val (.int (Int32.ofNat n)), .val (.ref b1), .unset, .unset, .unset, .unset, .unset, .unset, .unset, .unset] [(.int i1), (.int (1 : Int32)), (.int (Int32.ofNat n)), (.ref b1)])) (fun t k => XS.iloadN X3.here hx rfl (hb hby at_29) rfl k) ?_
  obtain ⟨_, _, ⟨T4, L4, k4, n4⟩, -, X4, ⟨Lc4, hQ4, l4, y4, z4⟩, st4⟩ := Jvm.LawKit.callS X3 hx (y := (⟨"com/example/bivista/bivista/rows/HashSlotsBytesToAddPinLaw", "fill", "(Lcom/example/bivista/bivista/rows/HashSlots;III)V"⟩ : MethodName)) hown (mvT hZ (hw _ (List.mem_of_getElem? (i := 13) rfl))) (mvT hZ (hw _ (List.mem_of_getElem? (i := 14) rfl))) (mvT hZ (hw _ (List.mem_of_getElem? (i := 15) rfl))) (mvT hZ (hw _ (List.mem_of_getElem? (i := 16) rfl))) (by decide) (backOf (W := 0) (rmF l Z a0 hw [] b1 n 1 i1 b2 T3.heap n0 Zs E_b1 F_size_b1 F_slots_b1 g_b1 g_b2 ne_b1_b2 (by omega) hn9 V_b2) hZ (hw _ (List.mem_of_getElem? (i := 16) rfl)) (hw _ (List.mem_of_getElem? (i := 15) rfl)) (by decide) (by decide)) (g := (mkF m 30 #[.val (.int i0), .val (.int i1), .val (.int i2), .val (.int (Int32.ofNat n)), .val (.ref b1), .unset, .unset, .unset, .unset, .unset, .unset, .unset, .unset] [(.int i1), (.int (1 : Int32)), (.int (Int32.ofNat n)), (.ref b1)])) rfl (by rw [hml]; rfl) (argsL := [(.ref b1), (.int (Int32.ofNat n)), (.int (1 : Int32)), (.int i1)]) (rest := []) (lenOf own_pd2 rfl) rfl (by show 2 * 0 + _ ≤ _; exact Nat.le_of_eq rfl) (hb hby at_30) (fun _ _ => ⟨rfl, rfl, (by decide : 2 + 0 ≤ _), (by decide : 18 + 0 ≤ _)⟩)
  dsimp only [Pt.U, Pt.locs, Pt.cells, Pt.slots] at X4 l4 y4 z4 st4 hQ4
  subst l4 y4 z4
  obtain ⟨rfl, Nq4, Kc4, Fs4, Fb4, Vc4⟩ := hQ4
  have Nf := Fr.app Nf Nq4
  have E_b1 := E_b1.keep Kc4
  have Zs := Nat.le_trans Zs Kc4.1
  have F_size_b1 := Fs4
  have F_slots_b1 := Fb4
  have V_b2 := Vc4
  refine own_by (B := T4.setTop (mkF m 33 #[.val (.int i0), .val (.int i1), .val (.int i2), .val (.int (Int32.ofNat n)), .val (.ref b1), .unset, .unset, .unset, .unset, .unset, .unset, .unset, .unset] [])) st4 ?_
  refine own_by (B := T4.setTop (mkF m 35 #[.val (.int i0), .val (.int i1), .val (.int i2), .val (.int (Int32.ofNat n)), .val (.ref b1), .unset, .unset, .unset, .unset, .unset, .unset, .unset, .unset] [(.ref b1)])) (fun t k => XS.aload X4.here hx rfl (hb hby at_33) rfl rfl k) ?_
  refine own_by (B := T4.setTop (mkF m 36 #[.val (.int i0), .val (.int i1), .val (.int i2), .val (.int (Int32.ofNat n)), .val (.ref b1), .unset, .unset, .unset, .unset, .unset, .unset, .unset, .unset] [(.int (Int32.ofNat n)), (.ref b1)])) (fun t k => XS.iloadN X4.here hx rfl (hb hby at_35) rfl k) ?_
  refine own_by (B := T4.setTop (mkF m 37 #[.val (.int i0), .val (.int i1), .val (.int i2), .val (.int (Int32.ofNat n)), .val (.ref b1), .unset, .unset, .unset, .unset, .unset, .unset, .unset, .unset] [(.int (2 : Int32)), (.int (Int32.ofNat n)), (.ref b1)])) (fun t k => XS.iconst X4.here hx rfl (hb hby at_36) k) ?_
  refine own_by (B := T4.setTop (mkF m 38 #[.val (.int i0), .val (.int i1), .val (.int i2), .val (.int (Int32.ofNat n)), .val (.ref b1), .unset, .unset, .unset, .unset, .unset, .unset, .unset, .unset] [(.int i1), (.int (2 : Int32)), (.int (Int32.ofNat n)), (.ref b1)])) (fun t k => XS.iloadN X4.here hx rfl (hb hby at_37) rfl k) ?_
  obtain ⟨_, _, ⟨T5, L5, k5, n5⟩, -, X5, ⟨Lc5, hQ5, l5, y5, z5⟩, st5⟩ := Jvm.LawKit.callS X4 hx (y := (⟨"com/example/bivista/bivista/rows/HashSlotsBytesToAddPinLaw", "fill", "(Lcom/example/bivista/bivista/rows/HashSlots;III)V"⟩ : MethodName)) hown (mvT hZ (hw _ (List.mem_of_getElem? (i := 13) rfl))) (mvT hZ (hw _ (List.mem_of_getElem? (i := 14) rfl))) (mvT hZ (hw _ (List.mem_of_getElem? (i := 15) rfl))) (mvT hZ (hw _ (List.mem_of_getElem? (i := 16) rfl))) (by decide) (backOf (W := 0) (rmF l Z a0 hw [] b1 n 2 i1 b2 T4.heap n0 Zs E_b1 F_size_b1 F_slots_b1 g_b1 g_b2 ne_b1_b2 (by omega) hn9 V_b2) hZ (hw _ (List.mem_of_getElem? (i := 16) rfl)) (hw _ (List.mem_of_getElem? (i := 15) rfl)) (by decide) (by decide)) (g := (mkF m 38 #[.val (.int i0), .val (.int i1), .val (.int i2), .val (.int (Int32.ofNat n)), .val (.ref b1), .unset, .unset, .unset, .unset, .unset, .unset, .unset, .unset] [(.int i1), (.int (2 : Int32)), (.int (Int32.ofNat n)), (.ref b1)])) rfl (by rw [hml]; rfl) (argsL := [(.ref b1), (.int (Int32.ofNat n)), (.int (2 : Int32)), (.int i1)]) (rest := []) (lenOf own_pd2 rfl) rfl (by show 2 * 0 + _ ≤ _; exact Nat.le_of_eq rfl) (hb hby at_38) (fun _ _ => ⟨rfl, rfl, (by decide : 2 + 0 ≤ _), (by decide : 18 + 0 ≤ _)⟩)
  dsimp only [Pt.U, Pt.locs, Pt.cells, Pt.slots] at X5 l5 y5 z5 st5 hQ5
  subst l5 y5 z5
  obtain ⟨rfl, Nq5, Kc5, Fs5, Fb5, Vc5⟩ := hQ5
  have Nf := Fr.app Nf Nq5
  have E_b1 := E_b1.keep Kc5
  have Zs := Nat.le_trans Zs Kc5.1
  have F_size_b1 := Fs5
  have F_slots_b1 := Fb5
  have V_b2 := Vc5
  refine own_by (B := T5.setTop (mkF m 41 #[.val (.int i0), .val (.int i1), .val (.int i2), .val (.int (Int32.ofNat n)), .val (.ref b1), .unset, .unset, .unset, .unset, .unset, .unset, .unset, .unset] [])) st5 ?_
  refine own_by (B := T5.setTop (mkF m 43 #[.val (.int i0), .val (.int i1), .val (.int i2), .val (.int (Int32.ofNat n)), .val (.ref b1), .unset, .unset, .unset, .unset, .unset, .unset, .unset, .unset] [(.ref b1)])) (fun t k => XS.aload X5.here hx rfl (hb hby at_41) rfl rfl k) ?_
  refine own_by (B := T5.setTop (mkF m 44 #[.val (.int i0), .val (.int i1), .val (.int i2), .val (.int (Int32.ofNat n)), .val (.ref b1), .unset, .unset, .unset, .unset, .unset, .unset, .unset, .unset] [(.int (Int32.ofNat n)), (.ref b1)])) (fun t k => XS.iloadN X5.here hx rfl (hb hby at_43) rfl k) ?_
  refine own_by (B := T5.setTop (mkF m 45 #[.val (.int i0), .val (.int i1), .val (.int i2), .val (.int (Int32.ofNat n)), .val (.ref b1), .unset, .unset, .unset, .unset, .unset, .unset, .unset, .unset] [(.int (3 : Int32)), (.int (Int32.ofNat n)), (.ref b1)])) (fun t k => XS.iconst X5.here hx rfl (hb hby at_44) k) ?_
  refine own_by (B := T5.setTop (mkF m 46 #[.val (.int i0), .val (.int i1), .val (.int i2), .val (.int (Int32.ofNat n)), .val (.ref b1), .unset, .unset, .unset, .unset, .unset, .unset, .unset, .unset] [(.int i1), (.int (3 : Int32)), (.int (Int32.ofNat n)), (.ref b1)])) (fun t k => XS.iloadN X5.here hx rfl (hb hby at_45) rfl k) ?_
  obtain ⟨_, _, ⟨T6, L6, k6, n6⟩, -, X6, ⟨Lc6, hQ6, l6, y6, z6⟩, st6⟩ := Jvm.LawKit.callS X5 hx (y := (⟨"com/example/bivista/bivista/rows/HashSlotsBytesToAddPinLaw", "fill", "(Lcom/example/bivista/bivista/rows/HashSlots;III)V"⟩ : MethodName)) hown (mvT hZ (hw _ (List.mem_of_getElem? (i := 13) rfl))) (mvT hZ (hw _ (List.mem_of_getElem? (i := 14) rfl))) (mvT hZ (hw _ (List.mem_of_getElem? (i := 15) rfl))) (mvT hZ (hw _ (List.mem_of_getElem? (i := 16) rfl))) (by decide) (backOf (W := 0) (rmF l Z a0 hw [] b1 n 3 i1 b2 T5.heap n0 Zs E_b1 F_size_b1 F_slots_b1 g_b1 g_b2 ne_b1_b2 (by omega) hn9 V_b2) hZ (hw _ (List.mem_of_getElem? (i := 16) rfl)) (hw _ (List.mem_of_getElem? (i := 15) rfl)) (by decide) (by decide)) (g := (mkF m 46 #[.val (.int i0), .val (.int i1), .val (.int i2), .val (.int (Int32.ofNat n)), .val (.ref b1), .unset, .unset, .unset, .unset, .unset, .unset, .unset, .unset] [(.int i1), (.int (3 : Int32)), (.int (Int32.ofNat n)), (.ref b1)])) rfl (by rw [hml]; rfl) (argsL := [(.ref b1), (.int (Int32.ofNat n)), (.int (3 : Int32)), (.int i1)]) (rest := []) (lenOf own_pd2 rfl) rfl (by show 2 * 0 + _ ≤ _; exact Nat.le_of_eq rfl) (hb hby at_46) (fun _ _ => ⟨rfl, rfl, (by decide : 2 + 0 ≤ _), (by decide : 18 + 0 ≤ _)⟩)
  dsimp only [Pt.U, Pt.locs, Pt.cells, Pt.slots] at X6 l6 y6 z6 st6 hQ6
  subst l6 y6 z6
  obtain ⟨rfl, Nq6, Kc6, Fs6, Fb6, Vc6⟩ := hQ6
  have Nf := Fr.app Nf Nq6
  have E_b1 := E_b1.keep Kc6
  have Zs := Nat.le_trans Zs Kc6.1
  have F_size_b1 := Fs6
  have F_slots_b1 := Fb6
  have V_b2 := Vc6
  refine own_by (B := T6.setTop (mkF m 49 #[.val (.int i0), .val (.int i1), .val (.int i2), .val (.int (Int32.ofNat n)), .val (.ref b1), .unset, .unset, .unset, .unset, .unset, .unset, .unset, .unset] [])) st6 ?_
  refine own_by (B := T6.setTop (mkF m 51 #[.val (.int i0), .val (.int i1), .val (.int i2), .val (.int (Int32.ofNat n)), .val (.ref b1), .unset, .unset, .unset, .unset, .unset, .unset, .unset, .unset] [(.ref b1)])) (fun t k => XS.aload X6.here hx rfl (hb hby at_49) rfl rfl k) ?_
  refine own_by (B := T6.setTop (mkF m 52 #[.val (.int i0), .val (.int i1), .val (.int i2), .val (.int (Int32.ofNat n)), .val (.ref b1), .unset, .unset, .unset, .unset, .unset, .unset, .unset, .unset] [(.int (Int32.ofNat n)), (.ref b1)])) (fun t k => XS.iloadN X6.here hx rfl (hb hby at_51) rfl k) ?_
  refine own_by (B := T6.setTop (mkF m 53 #[.val (.int i0), .val (.int i1), .val (.int i2), .val (.int (Int32.ofNat n)), .val (.ref b1), .unset, .unset, .unset, .unset, .unset, .unset, .unset, .unset] [(.int (4 : Int32)), (.int (Int32.ofNat n)), (.ref b1)])) (fun t k => XS.iconst X6.here hx rfl (hb hby at_52) k) ?_
  refine own_by (B := T6.setTop (mkF m 54 #[.val (.int i0), .val (.int i1), .val (.int i2), .val (.int (Int32.ofNat n)), .val (.ref b1), .unset, .unset, .unset, .unset, .unset, .unset, .unset, .unset] [(.int i1), (.int (4 : Int32)), (.int (Int32.ofNat n)), (.ref b1)])) (fun t k => XS.iloadN X6.here hx rfl (hb hby at_53) rfl k) ?_
  obtain ⟨_, _, ⟨T7, L7, k7, n7⟩, -, X7, ⟨Lc7, hQ7, l7, y7, z7⟩, st7⟩ := Jvm.LawKit.callS X6 hx (y := (⟨"com/example/bivista/bivista/rows/HashSlotsBytesToAddPinLaw", "fill", "(Lcom/example/bivista/bivista/rows/HashSlots;III)V"⟩ : MethodName)) hown (mvT hZ (hw _ (List.mem_of_getElem? (i := 13) rfl))) (mvT hZ (hw _ (List.mem_of_getElem? (i := 14) rfl))) (mvT hZ (hw _ (List.mem_of_getElem? (i := 15) rfl))) (mvT hZ (hw _ (List.mem_of_getElem? (i := 16) rfl))) (by decide) (backOf (W := 0) (rmF l Z a0 hw [] b1 n 4 i1 b2 T6.heap n0 Zs E_b1 F_size_b1 F_slots_b1 g_b1 g_b2 ne_b1_b2 (by omega) hn9 V_b2) hZ (hw _ (List.mem_of_getElem? (i := 16) rfl)) (hw _ (List.mem_of_getElem? (i := 15) rfl)) (by decide) (by decide)) (g := (mkF m 54 #[.val (.int i0), .val (.int i1), .val (.int i2), .val (.int (Int32.ofNat n)), .val (.ref b1), .unset, .unset, .unset, .unset, .unset, .unset, .unset, .unset] [(.int i1), (.int (4 : Int32)), (.int (Int32.ofNat n)), (.ref b1)])) rfl (by rw [hml]; rfl) (argsL := [(.ref b1), (.int (Int32.ofNat n)), (.int (4 : Int32)), (.int i1)]) (rest := []) (lenOf own_pd2 rfl) rfl (by show 2 * 0 + _ ≤ _; exact Nat.le_of_eq rfl) (hb hby at_54) (fun _ _ => ⟨rfl, rfl, (by decide : 2 + 0 ≤ _), (by decide : 18 + 0 ≤ _)⟩)
  dsimp only [Pt.U, Pt.locs, Pt.cells, Pt.slots] at X7 l7 y7 z7 st7 hQ7
  subst l7 y7 z7
  obtain ⟨rfl, Nq7, Kc7, Fs7, Fb7, Vc7⟩ := hQ7
  have Nf := Fr.app Nf Nq7
  have E_b1 := E_b1.keep Kc7
  have Zs := Nat.le_trans Zs Kc7.1
  have F_size_b1 := Fs7
  have F_slots_b1 := Fb7
  have V_b2 := Vc7
  refine own_by (B := T7.setTop (mkF m 57 #[.val (.int i0), .val (.int i1), .val (.int i2), .val (.int (Int32.ofNat n)), .val (.ref b1), .unset, .unset, .unset, .unset, .unset, .unset, .unset, .unset] [])) st7 ?_
  refine own_by (B := T7.setTop (mkF m 59 #[.val (.int i0), .val (.int i1), .val (.int i2), .val (.int (Int32.ofNat n)), .val (.ref b1), .unset, .unset, .unset, .unset, .unset, .unset, .unset, .unset] [(.ref b1)])) (fun t k => XS.aload X7.here hx rfl (hb hby at_57) rfl rfl k) ?_
  refine own_by (B := T7.setTop (mkF m 60 #[.val (.int i0), .val (.int i1), .val (.int i2), .val (.int (Int32.ofNat n)), .val (.ref b1), .unset, .unset, .unset, .unset, .unset, .unset, .unset, .unset] [(.int (Int32.ofNat n)), (.ref b1)])) (fun t k => XS.iloadN X7.here hx rfl (hb hby at_59) rfl k) ?_
  refine own_by (B := T7.setTop (mkF m 61 #[.val (.int i0), .val (.int i1), .val (.int i2), .val (.int (Int32.ofNat n)), .val (.ref b1), .unset, .unset, .unset, .unset, .unset, .unset, .unset, .unset] [(.int (5 : Int32)), (.int (Int32.ofNat n)), (.ref b1)])) (fun t k => XS.iconst X7.here hx rfl (hb hby at_60) k) ?_
  refine own_by (B := T7.setTop (mkF m 62 #[.val (.int i0), .val (.int i1), .val (.int i2), .val (.int (Int32.ofNat n)), .val (.ref b1), .unset, .unset, .unset, .unset, .unset, .unset, .unset, .unset] [(.int i1), (.int (5 : Int32)), (.int (Int32.ofNat n)), (.ref b1)])) (fun t k => XS.iloadN X7.here hx rfl (hb hby at_61) rfl k) ?_
  obtain ⟨_, _, ⟨T8, L8, k8, n8⟩, -, X8, ⟨Lc8, hQ8, l8, y8, z8⟩, st8⟩ := Jvm.LawKit.callS X7 hx (y := (⟨"com/example/bivista/bivista/rows/HashSlotsBytesToAddPinLaw", "fill", "(Lcom/example/bivista/bivista/rows/HashSlots;III)V"⟩ : MethodName)) hown (mvT hZ (hw _ (List.mem_of_getElem? (i := 13) rfl))) (mvT hZ (hw _ (List.mem_of_getElem? (i := 14) rfl))) (mvT hZ (hw _ (List.mem_of_getElem? (i := 15) rfl))) (mvT hZ (hw _ (List.mem_of_getElem? (i := 16) rfl))) (by decide) (backOf (W := 0) (rmF l Z a0 hw [] b1 n 5 i1 b2 T7.heap n0 Zs E_b1 F_size_b1 F_slots_b1 g_b1 g_b2 ne_b1_b2 (by omega) hn9 V_b2) hZ (hw _ (List.mem_of_getElem? (i := 16) rfl)) (hw _ (List.mem_of_getElem? (i := 15) rfl)) (by decide) (by decide)) (g := (mkF m 62 #[.val (.int i0), .val (.int i1), .val (.int i2), .val (.int (Int32.ofNat n)), .val (.ref b1), .unset, .unset, .unset, .unset, .unset, .unset, .unset, .unset] [(.int i1), (.int (5 : Int32)), (.int (Int32.ofNat n)), (.ref b1)])) rfl (by rw [hml]; rfl) (argsL := [(.ref b1), (.int (Int32.ofNat n)), (.int (5 : Int32)), (.int i1)]) (rest := []) (lenOf own_pd2 rfl) rfl (by show 2 * 0 + _ ≤ _; exact Nat.le_of_eq rfl) (hb hby at_62) (fun _ _ => ⟨rfl, rfl, (by decide : 2 + 0 ≤ _), (by decide : 18 + 0 ≤ _)⟩)
  dsimp only [Pt.U, Pt.locs, Pt.cells, Pt.slots] at X8 l8 y8 z8 st8 hQ8
  subst l8 y8 z8
  obtain ⟨rfl, Nq8, Kc8, Fs8, Fb8, Vc8⟩ := hQ8
  have Nf := Fr.app Nf Nq8
  have E_b1 := E_b1.keep Kc8
  have Zs := Nat.le_trans Zs Kc8.1
  have F_size_b1 := Fs8
  have F_slots_b1 := Fb8
  have V_b2 := Vc8
  refine own_by (B := T8.setTop (mkF m 65 #[.val (.int i0), .val (.int i1), .val (.int i2), .val (.int (Int32.ofNat n)), .val (.ref b1), .unset, .unset, .unset, .unset, .unset, .unset, .unset, .unset] [])) st8 ?_
  refine own_by (B := T8.setTop (mkF m 67 #[.val (.int i0), .val (.int i1), .val (.int i2), .val (.int (Int32.ofNat n)), .val (.ref b1), .unset, .unset, .unset, .unset, .unset, .unset, .unset, .unset] [(.ref b1)])) (fun t k => XS.aload X8.here hx rfl (hb hby at_65) rfl rfl k) ?_
  refine own_by (B := T8.setTop (mkF m 68 #[.val (.int i0), .val (.int i1), .val (.int i2), .val (.int (Int32.ofNat n)), .val (.ref b1), .unset, .unset, .unset, .unset, .unset, .unset, .unset, .unset] [(.int (Int32.ofNat n)), (.ref b1)])) (fun t k => XS.iloadN X8.here hx rfl (hb hby at_67) rfl k) ?_
  refine own_by (B := T8.setTop (mkF m 70 #[.val (.int i0), .val (.int i1), .val (.int i2), .val (.int (Int32.ofNat n)), .val (.ref b1), .unset, .unset, .unset, .unset, .unset, .unset, .unset, .unset] [(.int (6 : Int32)), (.int (Int32.ofNat n)), (.ref b1)])) (fun t k => XS.bipush X8.here hx rfl (hb hby at_68) k) ?_
  refine own_by (B := T8.setTop (mkF m 71 #[.val (.int i0), .val (.int i1), .val (.int i2), .val (.int (Int32.ofNat n)), .val (.ref b1), .unset, .unset, .unset, .unset, .unset, .unset, .unset, .unset] [(.int i1), (.int (6 : Int32)), (.int (Int32.ofNat n)), (.ref b1)])) (fun t k => XS.iloadN X8.here hx rfl (hb hby at_70) rfl k) ?_
  obtain ⟨_, _, ⟨T9, L9, k9, n9⟩, -, X9, ⟨Lc9, hQ9, l9, y9, z9⟩, st9⟩ := Jvm.LawKit.callS X8 hx (y := (⟨"com/example/bivista/bivista/rows/HashSlotsBytesToAddPinLaw", "fill", "(Lcom/example/bivista/bivista/rows/HashSlots;III)V"⟩ : MethodName)) hown (mvT hZ (hw _ (List.mem_of_getElem? (i := 13) rfl))) (mvT hZ (hw _ (List.mem_of_getElem? (i := 14) rfl))) (mvT hZ (hw _ (List.mem_of_getElem? (i := 15) rfl))) (mvT hZ (hw _ (List.mem_of_getElem? (i := 16) rfl))) (by decide) (backOf (W := 0) (rmF l Z a0 hw [] b1 n 6 i1 b2 T8.heap n0 Zs E_b1 F_size_b1 F_slots_b1 g_b1 g_b2 ne_b1_b2 (by omega) hn9 V_b2) hZ (hw _ (List.mem_of_getElem? (i := 16) rfl)) (hw _ (List.mem_of_getElem? (i := 15) rfl)) (by decide) (by decide)) (g := (mkF m 71 #[.val (.int i0), .val (.int i1), .val (.int i2), .val (.int (Int32.ofNat n)), .val (.ref b1), .unset, .unset, .unset, .unset, .unset, .unset, .unset, .unset] [(.int i1), (.int (6 : Int32)), (.int (Int32.ofNat n)), (.ref b1)])) rfl (by rw [hml]; rfl) (argsL := [(.ref b1), (.int (Int32.ofNat n)), (.int (6 : Int32)), (.int i1)]) (rest := []) (lenOf own_pd2 rfl) rfl (by show 2 * 0 + _ ≤ _; exact Nat.le_of_eq rfl) (hb hby at_71) (fun _ _ => ⟨rfl, rfl, (by decide : 2 + 0 ≤ _), (by decide : 18 + 0 ≤ _)⟩)
  dsimp only [Pt.U, Pt.locs, Pt.cells, Pt.slots] at X9 l9 y9 z9 st9 hQ9
  subst l9 y9 z9
  obtain ⟨rfl, Nq9, Kc9, Fs9, Fb9, Vc9⟩ := hQ9
  have Nf := Fr.app Nf Nq9
  have E_b1 := E_b1.keep Kc9
  have Zs := Nat.le_trans Zs Kc9.1
  have F_size_b1 := Fs9
  have F_slots_b1 := Fb9
  have V_b2 := Vc9
  refine own_by (B := T9.setTop (mkF m 74 #[.val (.int i0), .val (.int i1), .val (.int i2), .val (.int (Int32.ofNat n)), .val (.ref b1), .unset, .unset, .unset, .unset, .unset, .unset, .unset, .unset] [])) st9 ?_
  refine own_by (B := T9.setTop (mkF m 76 #[.val (.int i0), .val (.int i1), .val (.int i2), .val (.int (Int32.ofNat n)), .val (.ref b1), .unset, .unset, .unset, .unset, .unset, .unset, .unset, .unset] [(.ref b1)])) (fun t k => XS.aload X9.here hx rfl (hb hby at_74) rfl rfl k) ?_
  refine own_by (B := T9.setTop (mkF m 77 #[.val (.int i0), .val (.int i1), .val (.int i2), .val (.int (Int32.ofNat n)), .val (.ref b1), .unset, .unset, .unset, .unset, .unset, .unset, .unset, .unset] [(.int (Int32.ofNat n)), (.ref b1)])) (fun t k => XS.iloadN X9.here hx rfl (hb hby at_76) rfl k) ?_
  refine own_by (B := T9.setTop (mkF m 79 #[.val (.int i0), .val (.int i1), .val (.int i2), .val (.int (Int32.ofNat n)), .val (.ref b1), .unset, .unset, .unset, .unset, .unset, .unset, .unset, .unset] [(.int (7 : Int32)), (.int (Int32.ofNat n)), (.ref b1)])) (fun t k => XS.bipush X9.here hx rfl (hb hby at_77) k) ?_
  refine own_by (B := T9.setTop (mkF m 80 #[.val (.int i0), .val (.int i1), .val (.int i2), .val (.int (Int32.ofNat n)), .val (.ref b1), .unset, .unset, .unset, .unset, .unset, .unset, .unset, .unset] [(.int i1), (.int (7 : Int32)), (.int (Int32.ofNat n)), (.ref b1)])) (fun t k => XS.iloadN X9.here hx rfl (hb hby at_79) rfl k) ?_
  obtain ⟨_, _, ⟨T10, L10, k10, n10⟩, -, X10, ⟨Lc10, hQ10, l10, y10, z10⟩, st10⟩ := Jvm.LawKit.callS X9 hx (y := (⟨"com/example/bivista/bivista/rows/HashSlotsBytesToAddPinLaw", "fill", "(Lcom/example/bivista/bivista/rows/HashSlots;III)V"⟩ : MethodName)) hown (mvT hZ (hw _ (List.mem_of_getElem? (i := 13) rfl))) (mvT hZ (hw _ (List.mem_of_getElem? (i := 14) rfl))) (mvT hZ (hw _ (List.mem_of_getElem? (i := 15) rfl))) (mvT hZ (hw _ (List.mem_of_getElem? (i := 16) rfl))) (by decide) (backOf (W := 0) (rmF l Z a0 hw [] b1 n 7 i1 b2 T9.heap n0 Zs E_b1 F_size_b1 F_slots_b1 g_b1 g_b2 ne_b1_b2 (by omega) hn9 V_b2) hZ (hw _ (List.mem_of_getElem? (i := 16) rfl)) (hw _ (List.mem_of_getElem? (i := 15) rfl)) (by decide) (by decide)) (g := (mkF m 80 #[.val (.int i0), .val (.int i1), .val (.int i2), .val (.int (Int32.ofNat n)), .val (.ref b1), .unset, .unset, .unset, .unset, .unset, .unset, .unset, .unset] [(.int i1), (.int (7 : Int32)), (.int (Int32.ofNat n)), (.ref b1)])) rfl (by rw [hml]; rfl) (argsL := [(.ref b1), (.int (Int32.ofNat n)), (.int (7 : Int32)), (.int i1)]) (rest := []) (lenOf own_pd2 rfl) rfl (by show 2 * 0 + _ ≤ _; exact Nat.le_of_eq rfl) (hb hby at_80) (fun _ _ => ⟨rfl, rfl, (by decide : 2 + 0 ≤ _), (by decide : 18 + 0 ≤ _)⟩)
  dsimp only [Pt.U, Pt.locs, Pt.cells, Pt.slots] at X10 l10 y10 z10 st10 hQ10
  subst l10 y10 z10
  obtain ⟨rfl, Nq10, Kc10, Fs10, Fb10, Vc10⟩ := hQ10
  have Nf := Fr.app Nf Nq10
  have E_b1 := E_b1.keep Kc10
  have Zs := Nat.le_trans Zs Kc10.1
  have F_size_b1 := Fs10
  have F_slots_b1 := Fb10
  have V_b2 := Vc10
  refine own_by (B := T10.setTop (mkF m 83 #[.val (.int i0), .val (.int i1), .val (.int i2), .val (.int (Int32.ofNat n)), .val (.ref b1), .unset, .unset, .unset, .unset, .unset, .unset, .unset, .unset] [])) st10 ?_
  have em : min (7 + 1) n = n := by omega
  rw [em] at F_size_b1 V_b2
  by_cases h8 : n = 8
  · have hway := h8
    refine own_by (B := T10.setTop (mkF m 85 #[.val (.int i0), .val (.int i1), .val (.int i2), .val (.int (Int32.ofNat n)), .val (.ref b1), .unset, .unset, .unset, .unset, .unset, .unset, .unset, .unset] [(.ref b1)])) (fun t k => XS.aload X10.here hx rfl (hb hby at_83) rfl rfl k) ?_
    obtain ⟨cq11, kq11, q11a, q11b, q11c⟩ := isOf hZ rfl E_b1
    obtain ⟨_, _, ⟨T11, L11, k11, n11⟩, -, X11, ⟨Lc11, hQ11, l11, y11, z11⟩, st11⟩ := X10.virtualBack hx (y := (⟨"com/example/bivista/bivista/rows/HashSlots", "bytes", "()J"⟩ : MethodName)) (z := (⟨"com/example/bivista/bivista/rows/HashSlots", "bytes", "()J"⟩ : MethodName)) hown (mvT hZ (hw _ (List.mem_of_getElem? (i := 17) rfl))) (mvT hZ (hw _ (List.mem_of_getElem? (i := 18) rfl))) (notFace_of_selects (args := #[]) (mvT hZ (hw _ (List.mem_of_getElem? (i := 20) rfl)))) (mvT hZ (hw _ (List.mem_of_getElem? (i := 20) rfl))) (mvT hZ (hw _ (List.mem_of_getElem? (i := 19) rfl))) (by decide) (backOf (W := 0) (rmB16 l Z a0 hw [] b1 b2 _ T10.heap n0 Zs F_slots_b1 V_b2) hZ (hw _ (List.mem_of_getElem? (i := 21) rfl)) (hw _ (List.mem_of_getElem? (i := 3) rfl)) (by decide) (by decide)) q11a q11c (g := (mkF m 85 #[.val (.int i0), .val (.int i1), .val (.int i2), .val (.int (Int32.ofNat n)), .val (.ref b1), .unset, .unset, .unset, .unset, .unset, .unset, .unset, .unset] [(.ref b1)])) rfl (by rw [hml]; rfl) (Steps.refl _) (argsL := []) (rest := []) (lenOf own_pd3 rfl) rfl (by show 2 * 0 + _ ≤ _; exact Nat.le_of_eq rfl) (hb hby at_85) (fun _ _ => ⟨rfl, rfl, (by decide : 2 + 0 ≤ _), (by decide : 18 + 0 ≤ _)⟩)
    dsimp only [Pt.U, Pt.locs, Pt.cells, Pt.slots] at X11 l11 y11 z11 st11 hQ11
    subst l11 y11 z11
    obtain ⟨rfl, Nq11, hp11⟩ := hQ11
    have Nf := Fr.app Nf Nq11
    have ec11 : T11.heap = T10.heap := hp11
    refine own_by (B := T11.setTop (mkF m 88 #[.val (.int i0), .val (.int i1), .val (.int i2), .val (.int (Int32.ofNat n)), .val (.ref b1), .unset, .unset, .unset, .unset, .unset, .unset, .unset, .unset] [(.long (128 : Int64))])) (fun t k => st11.trans k) ?_
    refine own_by (B := T11.setTop (mkF m 90 #[.val (.int i0), .val (.int i1), .val (.int i2), .val (.int (Int32.ofNat n)), .val (.ref b1), .val (.long (128 : Int64)), .second, .unset, .unset, .unset, .unset, .unset, .unset] [])) (fun t k => XS.lstore X11.here hx rfl (hb hby at_88) rfl (l' := #[.val (.int i0), .val (.int i1), .val (.int i2), .val (.int (Int32.ofNat n)), .val (.ref b1), .val (.long (128 : Int64)), .second, .unset, .unset, .unset, .unset, .unset, .unset]) rfl k) ?_
    refine own_by (B := T11.setTop (mkF m 92 #[.val (.int i0), .val (.int i1), .val (.int i2), .val (.int (Int32.ofNat n)), .val (.ref b1), .val (.long (128 : Int64)), .second, .unset, .unset, .unset, .unset, .unset, .unset] [(.ref b1)])) (fun t k => XS.aload X11.here hx rfl (hb hby at_90) rfl rfl k) ?_
    obtain ⟨cq12, kq12, q12a, q12b, q12c⟩ := isOf hZ ec11 E_b1
    obtain ⟨_, _, ⟨T12, L12, k12, n12⟩, -, X12, ⟨Lc12, hQ12, l12, y12, z12⟩, st12⟩ := X11.virtualBack hx (y := (⟨"com/example/bivista/bivista/rows/HashSlots", "bytesToAdd", "()J"⟩ : MethodName)) (z := (⟨"com/example/bivista/bivista/rows/HashSlots", "bytesToAdd", "()J"⟩ : MethodName)) hown (mvT hZ (hw _ (List.mem_of_getElem? (i := 23) rfl))) (mvT hZ (hw _ (List.mem_of_getElem? (i := 24) rfl))) (notFace_of_selects (args := #[]) (mvT hZ (hw _ (List.mem_of_getElem? (i := 26) rfl)))) (mvT hZ (hw _ (List.mem_of_getElem? (i := 26) rfl))) (mvT hZ (hw _ (List.mem_of_getElem? (i := 25) rfl))) (by decide) (backOf (W := 0) (rmT1 l Z a0 hw [] b1 b2 n _ T10.heap n0 Zs F_size_b1 F_slots_b1 V_b2 (by omega)) hZ (hw _ (List.mem_of_getElem? (i := 27) rfl)) (hw _ (List.mem_of_getElem? (i := 3) rfl)) (by decide) (by decide)) q12a q12c (g := (mkF m 92 #[.val (.int i0), .val (.int i1), .val (.int i2), .val (.int (Int32.ofNat n)), .val (.ref b1), .val (.long (128 : Int64)), .second, .unset, .unset, .unset, .unset, .unset, .unset] [(.ref b1)])) rfl (by rw [hml]; rfl) (Steps.refl _) (argsL := []) (rest := []) (lenOf own_pd3 rfl) rfl (by show 2 * 0 + _ ≤ _; exact Nat.le_of_eq rfl) (hb hby at_92) (fun _ _ => ⟨rfl, ec11, (by decide : 2 + 0 ≤ _), (by decide : 18 + 0 ≤ _)⟩)
    dsimp only [Pt.U, Pt.locs, Pt.cells, Pt.slots] at X12 l12 y12 z12 st12 hQ12
    subst l12 y12 z12
    obtain ⟨rfl, Nq12, hp12⟩ := hQ12
    have Nf := Fr.app Nf Nq12
    have ec12 : T12.heap = T10.heap := hp12
    refine own_by (B := T12.setTop (mkF m 95 #[.val (.int i0), .val (.int i1), .val (.int i2), .val (.int (Int32.ofNat n)), .val (.ref b1), .val (.long (128 : Int64)), .second, .unset, .unset, .unset, .unset, .unset, .unset] [(.long (128 : Int64))])) (fun t k => st12.trans k) ?_
    refine own_by (B := T12.setTop (mkF m 97 #[.val (.int i0), .val (.int i1), .val (.int i2), .val (.int (Int32.ofNat n)), .val (.ref b1), .val (.long (128 : Int64)), .second, .val (.long (128 : Int64)), .second, .unset, .unset, .unset, .unset] [])) (fun t k => XS.lstore X12.here hx rfl (hb hby at_95) rfl (l' := #[.val (.int i0), .val (.int i1), .val (.int i2), .val (.int (Int32.ofNat n)), .val (.ref b1), .val (.long (128 : Int64)), .second, .val (.long (128 : Int64)), .second, .unset, .unset, .unset, .unset]) rfl k) ?_
    refine own_by (B := T12.setTop (mkF m 99 #[.val (.int i0), .val (.int i1), .val (.int i2), .val (.int (Int32.ofNat n)), .val (.ref b1), .val (.long (128 : Int64)), .second, .val (.long (128 : Int64)), .second, .unset, .unset, .unset, .unset] [(.ref b1)])) (fun t k => XS.aload X12.here hx rfl (hb hby at_97) rfl rfl k) ?_
    refine own_by (B := T12.setTop (mkF m 100 #[.val (.int i0), .val (.int i1), .val (.int i2), .val (.int (Int32.ofNat n)), .val (.ref b1), .val (.long (128 : Int64)), .second, .val (.long (128 : Int64)), .second, .unset, .unset, .unset, .unset] [(.int (Int32.ofNat n)), (.ref b1)])) (fun t k => XS.iloadN X12.here hx rfl (hb hby at_99) rfl k) ?_
    refine own_by (B := T12.setTop (mkF m 101 #[.val (.int i0), .val (.int i1), .val (.int i2), .val (.int (Int32.ofNat n)), .val (.ref b1), .val (.long (128 : Int64)), .second, .val (.long (128 : Int64)), .second, .unset, .unset, .unset, .unset] [(.int i2), (.int (Int32.ofNat n)), (.ref b1)])) (fun t k => XS.iloadN X12.here hx rfl (hb hby at_100) rfl k) ?_
    refine own_by (B := T12.setTop (mkF m 103 #[.val (.int i0), .val (.int i1), .val (.int i2), .val (.int (Int32.ofNat n)), .val (.ref b1), .val (.long (128 : Int64)), .second, .val (.long (128 : Int64)), .second, .unset, .unset, .unset, .unset] [(.int (-32 : Int32)), (.int i2), (.int (Int32.ofNat n)), (.ref b1)])) (fun t k => XS.bipush X12.here hx rfl (hb hby at_101) k) ?_
    refine own_by (B := T12.setTop (mkF m 104 #[.val (.int i0), .val (.int i1), .val (.int i2), .val (.int (Int32.ofNat n)), .val (.ref b1), .val (.long (128 : Int64)), .second, .val (.long (128 : Int64)), .second, .unset, .unset, .unset, .unset] [(.int (i2 &&& (-32 : Int32))), (.int (Int32.ofNat n)), (.ref b1)])) (fun t k => XS.iand X12.here hx rfl (hb hby at_103) rfl k) ?_
    refine own_by (B := T12.setTop (mkF m 105 #[.val (.int i0), .val (.int i1), .val (.int i2), .val (.int (Int32.ofNat n)), .val (.ref b1), .val (.long (128 : Int64)), .second, .val (.long (128 : Int64)), .second, .unset, .unset, .unset, .unset] [(.int (Int32.ofNat n)), (.int (i2 &&& (-32 : Int32))), (.int (Int32.ofNat n)), (.ref b1)])) (fun t k => XS.iloadN X12.here hx rfl (hb hby at_104) rfl k) ?_
    refine own_by (B := T12.setTop (mkF m 106 #[.val (.int i0), .val (.int i1), .val (.int i2), .val (.int (Int32.ofNat n)), .val (.ref b1), .val (.long (128 : Int64)), .second, .val (.long (128 : Int64)), .second, .unset, .unset, .unset, .unset] [(.int ((i2 &&& (-32 : Int32)) ||| (Int32.ofNat n))), (.int (Int32.ofNat n)), (.ref b1)])) (fun t k => XS.ior X12.here hx rfl (hb hby at_105) rfl k) ?_
    refine own_by (B := T12.setTop (mkF m 107 #[.val (.int i0), .val (.int i1), .val (.int i2), .val (.int (Int32.ofNat n)), .val (.ref b1), .val (.long (128 : Int64)), .second, .val (.long (128 : Int64)), .second, .unset, .unset, .unset, .unset] [(.int (Int32.ofNat n)), (.int ((i2 &&& (-32 : Int32)) ||| (Int32.ofNat n))), (.int (Int32.ofNat n)), (.ref b1)])) (fun t k => XS.iloadN X12.here hx rfl (hb hby at_106) rfl k) ?_
    subst h8
    have hgf : ∀ t, t < 16 → (if t = 8 then Value.long (own_h ((i2 &&& (-32 : Int32)) ||| (Int32.ofNat 8)) (Int32.ofNat 8)) else own_sl i1 8 t) = (if t < 9 then Value.long ((fun t => if t = 8 then own_h ((i2 &&& (-32 : Int32)) ||| (Int32.ofNat 8)) (Int32.ofNat 8) else own_h (own_code i1 t) (Int32.ofNat t)) t) else .long 0) := fun t ht => by
      by_cases q : t = 8
      · subst q; rfl
      · rw [if_neg q]; unfold own_sl
        by_cases q2 : t < 8
        · simp only [if_pos q2, if_pos (show t < 9 by omega), if_neg q]
        · simp only [if_neg q2, if_neg (show ¬ t < 9 by omega)]
    have hg9 : ∀ t, t < 9 → ¬ (fun t => if t = 8 then own_h ((i2 &&& (-32 : Int32)) ||| (Int32.ofNat 8)) (Int32.ofNat 8) else own_h (own_code i1 t) (Int32.ofNat t)) t = 0 ∧ ((((fun t => if t = 8 then own_h ((i2 &&& (-32 : Int32)) ||| (Int32.ofNat 8)) (Int32.ofNat 8) else own_h (own_code i1 t) (Int32.ofNat t)) t).toUInt64 >>> ((32 : Int32) &&& 0x3f).toInt64.toUInt64).toInt64).toInt32 &&& (31 : Int32) = Int32.ofNat t := fun t ht => by
      by_cases q : t = 8
      · subst q; simp only [if_true]; exact ⟨own_hne (by omega), by rw [own_hhi (by omega)]; exact own_low _ (by omega)⟩
      · simp only [if_neg q]; exact ⟨own_hne (by omega), by rw [own_hhi (by omega)]; exact own_low _ (by omega)⟩
    obtain ⟨cq13, kq13, q13a, q13b, q13c⟩ := isOf hZ ec12 E_b1
    obtain ⟨_, _, ⟨T13, L13, k13, n13⟩, -, X13, ⟨Lc13, hQ13, l13, y13, z13⟩, st13⟩ := X12.virtualBack hx (y := (⟨"com/example/bivista/bivista/rows/HashSlots", "add", "(III)V"⟩ : MethodName)) (z := (⟨"com/example/bivista/bivista/rows/HashSlots", "add", "(III)V"⟩ : MethodName)) hown (mvT hZ (hw _ (List.mem_of_getElem? (i := 30) rfl))) (mvT hZ (hw _ (List.mem_of_getElem? (i := 31) rfl))) (notFace_of_selects (args := #[]) (mvT hZ (hw _ (List.mem_of_getElem? (i := 33) rfl)))) (mvT hZ (hw _ (List.mem_of_getElem? (i := 33) rfl))) (mvT hZ (hw _ (List.mem_of_getElem? (i := 32) rfl))) (by decide) (backOf (W := 0) (rmAG l Z a0 hw [] b1 8 ((i2 &&& (-32 : Int32)) ||| (Int32.ofNat 8)) (Int32.ofNat 8) b2 8 _ _ T10.heap n0 Zs E_b1 F_size_b1 F_slots_b1 g_b1 g_b2 ne_b1_b2 (by omega) rfl V_b2 hgf hg9) hZ (hw _ (List.mem_of_getElem? (i := 34) rfl)) (hw _ (List.mem_of_getElem? (i := 3) rfl)) (by decide) (by decide)) q13a q13c (g := (mkF m 107 #[.val (.int i0), .val (.int i1), .val (.int i2), .val (.int (Int32.ofNat 8)), .val (.ref b1), .val (.long (128 : Int64)), .second, .val (.long (128 : Int64)), .second, .unset, .unset, .unset, .unset] [(.int (Int32.ofNat 8)), (.int ((i2 &&& (-32 : Int32)) ||| (Int32.ofNat 8))), (.int (Int32.ofNat 8)), (.ref b1)])) rfl (by rw [hml]; rfl) (Steps.refl _) (argsL := [(.int (Int32.ofNat 8)), (.int ((i2 &&& (-32 : Int32)) ||| (Int32.ofNat 8))), (.int (Int32.ofNat 8))]) (rest := []) (lenOf own_pd1 rfl) rfl (by show 2 * 0 + _ ≤ _; exact Nat.le_of_eq rfl) (hb hby at_107) (fun _ _ => ⟨rfl, ec12, (by decide : 2 + 1 ≤ _), (by decide : 18 + 32 ≤ _)⟩)
    dsimp only [Pt.U, Pt.locs, Pt.cells, Pt.slots] at X13 l13 y13 z13 st13 hQ13
    subst l13 y13 z13
    obtain ⟨rfl, Nq13, Kc13, b13, f13, Fb13, Vc13⟩ := hQ13
    have Nf := Fr.app Nf Nq13
    have E_b1 := E_b1.keep Kc13
    have Zs := Nat.le_trans Zs Kc13.1
    have F_slots_b1 := Fb13
    have V_b13 := Vc13
    refine own_by (B := T13.setTop (mkF m 110 #[.val (.int i0), .val (.int i1), .val (.int i2), .val (.int (Int32.ofNat 8)), .val (.ref b1), .val (.long (128 : Int64)), .second, .val (.long (128 : Int64)), .second, .unset, .unset, .unset, .unset] [])) (fun t k => st13.trans k) ?_
    refine own_by (B := T13.setTop (mkF m 112 #[.val (.int i0), .val (.int i1), .val (.int i2), .val (.int (Int32.ofNat 8)), .val (.ref b1), .val (.long (128 : Int64)), .second, .val (.long (128 : Int64)), .second, .unset, .unset, .unset, .unset] [(.ref b1)])) (fun t k => XS.aload X13.here hx rfl (hb hby at_110) rfl rfl k) ?_
    obtain ⟨cq14, kq14, q14a, q14b, q14c⟩ := isOf hZ rfl E_b1
    obtain ⟨_, _, ⟨T14, L14, k14, n14⟩, -, X14, ⟨Lc14, hQ14, l14, y14, z14⟩, st14⟩ := X13.virtualBack hx (y := (⟨"com/example/bivista/bivista/rows/HashSlots", "bytes", "()J"⟩ : MethodName)) (z := (⟨"com/example/bivista/bivista/rows/HashSlots", "bytes", "()J"⟩ : MethodName)) hown (mvT hZ (hw _ (List.mem_of_getElem? (i := 17) rfl))) (mvT hZ (hw _ (List.mem_of_getElem? (i := 18) rfl))) (notFace_of_selects (args := #[]) (mvT hZ (hw _ (List.mem_of_getElem? (i := 20) rfl)))) (mvT hZ (hw _ (List.mem_of_getElem? (i := 20) rfl))) (mvT hZ (hw _ (List.mem_of_getElem? (i := 19) rfl))) (by decide) (backOf (W := 0) (rmB32 l Z a0 hw [] b1 b13 _ T13.heap n0 Zs F_slots_b1 V_b13) hZ (hw _ (List.mem_of_getElem? (i := 21) rfl)) (hw _ (List.mem_of_getElem? (i := 3) rfl)) (by decide) (by decide)) q14a q14c (g := (mkF m 112 #[.val (.int i0), .val (.int i1), .val (.int i2), .val (.int (Int32.ofNat 8)), .val (.ref b1), .val (.long (128 : Int64)), .second, .val (.long (128 : Int64)), .second, .unset, .unset, .unset, .unset] [(.ref b1)])) rfl (by rw [hml]; rfl) (Steps.refl _) (argsL := []) (rest := []) (lenOf own_pd3 rfl) rfl (by show 2 * 0 + _ ≤ _; exact Nat.le_of_eq rfl) (hb hby at_112) (fun _ _ => ⟨rfl, rfl, (by decide : 3 + 0 ≤ _), (by decide : 50 + 0 ≤ _)⟩)
    dsimp only [Pt.U, Pt.locs, Pt.cells, Pt.slots] at X14 l14 y14 z14 st14 hQ14
    subst l14 y14 z14
    obtain ⟨rfl, Nq14, hp14⟩ := hQ14
    have Nf := Fr.app Nf Nq14
    have ec14 : T14.heap = T13.heap := hp14
    refine own_by (B := T14.setTop (mkF m 115 #[.val (.int i0), .val (.int i1), .val (.int i2), .val (.int (Int32.ofNat 8)), .val (.ref b1), .val (.long (128 : Int64)), .second, .val (.long (128 : Int64)), .second, .unset, .unset, .unset, .unset] [(.long (256 : Int64))])) (fun t k => st14.trans k) ?_
    refine own_by (B := T14.setTop (mkF m 117 #[.val (.int i0), .val (.int i1), .val (.int i2), .val (.int (Int32.ofNat 8)), .val (.ref b1), .val (.long (128 : Int64)), .second, .val (.long (128 : Int64)), .second, .val (.long (256 : Int64)), .second, .unset, .unset] [])) (fun t k => XS.lstore X14.here hx rfl (hb hby at_115) rfl (l' := #[.val (.int i0), .val (.int i1), .val (.int i2), .val (.int (Int32.ofNat 8)), .val (.ref b1), .val (.long (128 : Int64)), .second, .val (.long (128 : Int64)), .second, .val (.long (256 : Int64)), .second, .unset, .unset]) rfl k) ?_
    refine own_by (B := T14.setTop (mkF m 118 #[.val (.int i0), .val (.int i1), .val (.int i2), .val (.int (Int32.ofNat 8)), .val (.ref b1), .val (.long (128 : Int64)), .second, .val (.long (128 : Int64)), .second, .val (.long (256 : Int64)), .second, .unset, .unset] [(.int (Int32.ofNat 8))])) (fun t k => XS.iloadN X14.here hx rfl (hb hby at_117) rfl k) ?_
    refine own_by (B := T14.setTop (mkF m 120 #[.val (.int i0), .val (.int i1), .val (.int i2), .val (.int (Int32.ofNat 8)), .val (.ref b1), .val (.long (128 : Int64)), .second, .val (.long (128 : Int64)), .second, .val (.long (256 : Int64)), .second, .unset, .unset] [(.int (8 : Int32)), (.int (Int32.ofNat 8))])) (fun t k => XS.bipush X14.here hx rfl (hb hby at_118) k) ?_
    refine own_by (B := T14.setTop (mkF m 123 #[.val (.int i0), .val (.int i1), .val (.int i2), .val (.int (Int32.ofNat 8)), .val (.ref b1), .val (.long (128 : Int64)), .second, .val (.long (128 : Int64)), .second, .val (.long (256 : Int64)), .second, .unset, .unset] [])) (fun t k => XS.icmpNo X14.here hx rfl (hb hby at_120) rfl (teq rfl).2 k) ?_
    refine own_by (B := T14.setTop (mkF m 126 #[.val (.int i0), .val (.int i1), .val (.int i2), .val (.int (Int32.ofNat 8)), .val (.ref b1), .val (.long (128 : Int64)), .second, .val (.long (128 : Int64)), .second, .val (.long (256 : Int64)), .second, .unset, .unset] [(.long (128 : Int64))])) (fun t k => X14.ldc2Long hx hown (mvT hZ (hw _ (List.mem_of_getElem? (i := 35) rfl))) (g := (mkF m 123 #[.val (.int i0), .val (.int i1), .val (.int i2), .val (.int (Int32.ofNat 8)), .val (.ref b1), .val (.long (128 : Int64)), .second, .val (.long (128 : Int64)), .second, .val (.long (256 : Int64)), .second, .unset, .unset] [])) rfl (hb hby at_123) _ k) ?_
    refine own_by (B := T14.setTop (mkF m 130 #[.val (.int i0), .val (.int i1), .val (.int i2), .val (.int (Int32.ofNat 8)), .val (.ref b1), .val (.long (128 : Int64)), .second, .val (.long (128 : Int64)), .second, .val (.long (256 : Int64)), .second, .unset, .unset] [(.long (128 : Int64))])) (fun t k => XS.goto X14.here hx rfl (pc0 := 126) (pc' := 130) rfl (hb hby at_126) (by decide) (by decide) k) ?_
    refine own_by (B := T14.setTop (mkF m 132 #[.val (.int i0), .val (.int i1), .val (.int i2), .val (.int (Int32.ofNat 8)), .val (.ref b1), .val (.long (128 : Int64)), .second, .val (.long (128 : Int64)), .second, .val (.long (256 : Int64)), .second, .val (.long (128 : Int64)), .second] [])) (fun t k => XS.lstore X14.here hx rfl (hb hby at_130) rfl (l' := #[.val (.int i0), .val (.int i1), .val (.int i2), .val (.int (Int32.ofNat 8)), .val (.ref b1), .val (.long (128 : Int64)), .second, .val (.long (128 : Int64)), .second, .val (.long (256 : Int64)), .second, .val (.long (128 : Int64)), .second]) rfl k) ?_
    refine own_by (B := T14.setTop (mkF m 134 #[.val (.int i0), .val (.int i1), .val (.int i2), .val (.int (Int32.ofNat 8)), .val (.ref b1), .val (.long (128 : Int64)), .second, .val (.long (128 : Int64)), .second, .val (.long (256 : Int64)), .second, .val (.long (128 : Int64)), .second] [(.long (128 : Int64))])) (fun t k => XS.lload X14.here hx rfl (hb hby at_132) rfl k) ?_
    refine own_by (B := T14.setTop (mkF m 137 #[.val (.int i0), .val (.int i1), .val (.int i2), .val (.int (Int32.ofNat 8)), .val (.ref b1), .val (.long (128 : Int64)), .second, .val (.long (128 : Int64)), .second, .val (.long (256 : Int64)), .second, .val (.long (128 : Int64)), .second] [(.long (128 : Int64)), (.long (128 : Int64))])) (fun t k => X14.ldc2Long hx hown (mvT hZ (hw _ (List.mem_of_getElem? (i := 35) rfl))) (g := (mkF m 134 #[.val (.int i0), .val (.int i1), .val (.int i2), .val (.int (Int32.ofNat 8)), .val (.ref b1), .val (.long (128 : Int64)), .second, .val (.long (128 : Int64)), .second, .val (.long (256 : Int64)), .second, .val (.long (128 : Int64)), .second] [(.long (128 : Int64))])) rfl (hb hby at_134) _ k) ?_
    refine own_by (B := T14.setTop (mkF m 138 #[.val (.int i0), .val (.int i1), .val (.int i2), .val (.int (Int32.ofNat 8)), .val (.ref b1), .val (.long (128 : Int64)), .second, .val (.long (128 : Int64)), .second, .val (.long (256 : Int64)), .second, .val (.long (128 : Int64)), .second] [(.int (0 : Int32))])) (fun t k => XS.lcmp X14.here hx rfl (hb hby at_137) rfl k) ?_
    refine own_by (B := T14.setTop (mkF m 141 #[.val (.int i0), .val (.int i1), .val (.int i2), .val (.int (Int32.ofNat 8)), .val (.ref b1), .val (.long (128 : Int64)), .second, .val (.long (128 : Int64)), .second, .val (.long (256 : Int64)), .second, .val (.long (128 : Int64)), .second] [])) (fun t k => XS.ifNo X14.here hx rfl (hb hby at_138) rfl ((if0 _ _).trans (teq (by decide)).2) k) ?_
    refine own_by (B := T14.setTop (mkF m 143 #[.val (.int i0), .val (.int i1), .val (.int i2), .val (.int (Int32.ofNat 8)), .val (.ref b1), .val (.long (128 : Int64)), .second, .val (.long (128 : Int64)), .second, .val (.long (256 : Int64)), .second, .val (.long (128 : Int64)), .second] [(.long (128 : Int64))])) (fun t k => XS.lload X14.here hx rfl (hb hby at_141) rfl k) ?_
    refine own_by (B := T14.setTop (mkF m 145 #[.val (.int i0), .val (.int i1), .val (.int i2), .val (.int (Int32.ofNat 8)), .val (.ref b1), .val (.long (128 : Int64)), .second, .val (.long (128 : Int64)), .second, .val (.long (256 : Int64)), .second, .val (.long (128 : Int64)), .second] [(.long (128 : Int64)), (.long (128 : Int64))])) (fun t k => XS.lload X14.here hx rfl (hb hby at_143) rfl k) ?_
    refine own_by (B := T14.setTop (mkF m 146 #[.val (.int i0), .val (.int i1), .val (.int i2), .val (.int (Int32.ofNat 8)), .val (.ref b1), .val (.long (128 : Int64)), .second, .val (.long (128 : Int64)), .second, .val (.long (256 : Int64)), .second, .val (.long (128 : Int64)), .second] [(.int (0 : Int32))])) (fun t k => XS.lcmp X14.here hx rfl (hb hby at_145) rfl k) ?_
    refine own_by (B := T14.setTop (mkF m 149 #[.val (.int i0), .val (.int i1), .val (.int i2), .val (.int (Int32.ofNat 8)), .val (.ref b1), .val (.long (128 : Int64)), .second, .val (.long (128 : Int64)), .second, .val (.long (256 : Int64)), .second, .val (.long (128 : Int64)), .second] [])) (fun t k => XS.ifNo X14.here hx rfl (hb hby at_146) rfl ((if0 _ _).trans (teq (by decide)).2) k) ?_
    refine own_by (B := T14.setTop (mkF m 151 #[.val (.int i0), .val (.int i1), .val (.int i2), .val (.int (Int32.ofNat 8)), .val (.ref b1), .val (.long (128 : Int64)), .second, .val (.long (128 : Int64)), .second, .val (.long (256 : Int64)), .second, .val (.long (128 : Int64)), .second] [(.long (256 : Int64))])) (fun t k => XS.lload X14.here hx rfl (hb hby at_149) rfl k) ?_
    refine own_by (B := T14.setTop (mkF m 153 #[.val (.int i0), .val (.int i1), .val (.int i2), .val (.int (Int32.ofNat 8)), .val (.ref b1), .val (.long (128 : Int64)), .second, .val (.long (128 : Int64)), .second, .val (.long (256 : Int64)), .second, .val (.long (128 : Int64)), .second] [(.long (128 : Int64)), (.long (256 : Int64))])) (fun t k => XS.lload X14.here hx rfl (hb hby at_151) rfl k) ?_
    refine own_by (B := T14.setTop (mkF m 154 #[.val (.int i0), .val (.int i1), .val (.int i2), .val (.int (Int32.ofNat 8)), .val (.ref b1), .val (.long (128 : Int64)), .second, .val (.long (128 : Int64)), .second, .val (.long (256 : Int64)), .second, .val (.long (128 : Int64)), .second] [(.long (128 : Int64))])) (fun t k => XS.lsub X14.here hx rfl (hb hby at_153) rfl k) ?_
    refine own_by (B := T14.setTop (mkF m 156 #[.val (.int i0), .val (.int i1), .val (.int i2), .val (.int (Int32.ofNat 8)), .val (.ref b1), .val (.long (128 : Int64)), .second, .val (.long (128 : Int64)), .second, .val (.long (256 : Int64)), .second, .val (.long (128 : Int64)), .second] [(.long (128 : Int64)), (.long (128 : Int64))])) (fun t k => XS.lload X14.here hx rfl (hb hby at_154) rfl k) ?_
    refine own_by (B := T14.setTop (mkF m 157 #[.val (.int i0), .val (.int i1), .val (.int i2), .val (.int (Int32.ofNat 8)), .val (.ref b1), .val (.long (128 : Int64)), .second, .val (.long (128 : Int64)), .second, .val (.long (256 : Int64)), .second, .val (.long (128 : Int64)), .second] [(.int (0 : Int32))])) (fun t k => XS.lcmp X14.here hx rfl (hb hby at_156) rfl k) ?_
    refine own_by (B := T14.setTop (mkF m 160 #[.val (.int i0), .val (.int i1), .val (.int i2), .val (.int (Int32.ofNat 8)), .val (.ref b1), .val (.long (128 : Int64)), .second, .val (.long (128 : Int64)), .second, .val (.long (256 : Int64)), .second, .val (.long (128 : Int64)), .second] [])) (fun t k => XS.ifNo X14.here hx rfl (hb hby at_157) rfl ((if0 _ _).trans (teq (by decide)).2) k) ?_
    refine own_by (B := T14.setTop (mkF m 161 #[.val (.int i0), .val (.int i1), .val (.int i2), .val (.int (Int32.ofNat 8)), .val (.ref b1), .val (.long (128 : Int64)), .second, .val (.long (128 : Int64)), .second, .val (.long (256 : Int64)), .second, .val (.long (128 : Int64)), .second] [(.int (1 : Int32))])) (fun t k => XS.iconst X14.here hx rfl (hb hby at_160) k) ?_
    refine own_by (B := T14.setTop (mkF m 165 #[.val (.int i0), .val (.int i1), .val (.int i2), .val (.int (Int32.ofNat 8)), .val (.ref b1), .val (.long (128 : Int64)), .second, .val (.long (128 : Int64)), .second, .val (.long (256 : Int64)), .second, .val (.long (128 : Int64)), .second] [(.int (1 : Int32))])) (fun t k => XS.goto X14.here hx rfl (pc0 := 161) (pc' := 165) rfl (hb hby at_161) (by decide) (by decide) k) ?_
    exact own_end X14 (v := some (.int (1 : Int32))) (fun h => by rw [Bd.returns] at h; cases h) (BodyLoose.notSynchronized Bd) (Q := (Q_rm0 Z i0 i1 i2 h0 n0)) (fun fs hr => retN X14 hx (t := .boolean) Bd.returns (by simp) (hb hby at_165) hr) (show (Q_rm0 Z i0 i1 i2 h0 n0) _ T14.heap _ from (by rw [ec14]; exact ⟨rfl, Nf⟩)) (by decide) (by decide)
  · have hway := h8
    refine own_by (B := T10.setTop (mkF m 85 #[.val (.int i0), .val (.int i1), .val (.int i2), .val (.int (Int32.ofNat n)), .val (.ref b1), .unset, .unset, .unset, .unset, .unset, .unset, .unset, .unset] [(.ref b1)])) (fun t k => XS.aload X10.here hx rfl (hb hby at_83) rfl rfl k) ?_
    obtain ⟨cq15, kq15, q15a, q15b, q15c⟩ := isOf hZ rfl E_b1
    obtain ⟨_, _, ⟨T15, L15, k15, n15⟩, -, X15, ⟨Lc15, hQ15, l15, y15, z15⟩, st15⟩ := X10.virtualBack hx (y := (⟨"com/example/bivista/bivista/rows/HashSlots", "bytes", "()J"⟩ : MethodName)) (z := (⟨"com/example/bivista/bivista/rows/HashSlots", "bytes", "()J"⟩ : MethodName)) hown (mvT hZ (hw _ (List.mem_of_getElem? (i := 17) rfl))) (mvT hZ (hw _ (List.mem_of_getElem? (i := 18) rfl))) (notFace_of_selects (args := #[]) (mvT hZ (hw _ (List.mem_of_getElem? (i := 20) rfl)))) (mvT hZ (hw _ (List.mem_of_getElem? (i := 20) rfl))) (mvT hZ (hw _ (List.mem_of_getElem? (i := 19) rfl))) (by decide) (backOf (W := 0) (rmB16 l Z a0 hw [] b1 b2 _ T10.heap n0 Zs F_slots_b1 V_b2) hZ (hw _ (List.mem_of_getElem? (i := 21) rfl)) (hw _ (List.mem_of_getElem? (i := 3) rfl)) (by decide) (by decide)) q15a q15c (g := (mkF m 85 #[.val (.int i0), .val (.int i1), .val (.int i2), .val (.int (Int32.ofNat n)), .val (.ref b1), .unset, .unset, .unset, .unset, .unset, .unset, .unset, .unset] [(.ref b1)])) rfl (by rw [hml]; rfl) (Steps.refl _) (argsL := []) (rest := []) (lenOf own_pd3 rfl) rfl (by show 2 * 0 + _ ≤ _; exact Nat.le_of_eq rfl) (hb hby at_85) (fun _ _ => ⟨rfl, rfl, (by decide : 2 + 0 ≤ _), (by decide : 18 + 0 ≤ _)⟩)
    dsimp only [Pt.U, Pt.locs, Pt.cells, Pt.slots] at X15 l15 y15 z15 st15 hQ15
    subst l15 y15 z15
    obtain ⟨rfl, Nq15, hp15⟩ := hQ15
    have Nf := Fr.app Nf Nq15
    have ec15 : T15.heap = T10.heap := hp15
    refine own_by (B := T15.setTop (mkF m 88 #[.val (.int i0), .val (.int i1), .val (.int i2), .val (.int (Int32.ofNat n)), .val (.ref b1), .unset, .unset, .unset, .unset, .unset, .unset, .unset, .unset] [(.long (128 : Int64))])) (fun t k => st15.trans k) ?_
    refine own_by (B := T15.setTop (mkF m 90 #[.val (.int i0), .val (.int i1), .val (.int i2), .val (.int (Int32.ofNat n)), .val (.ref b1), .val (.long (128 : Int64)), .second, .unset, .unset, .unset, .unset, .unset, .unset] [])) (fun t k => XS.lstore X15.here hx rfl (hb hby at_88) rfl (l' := #[.val (.int i0), .val (.int i1), .val (.int i2), .val (.int (Int32.ofNat n)), .val (.ref b1), .val (.long (128 : Int64)), .second, .unset, .unset, .unset, .unset, .unset, .unset]) rfl k) ?_
    refine own_by (B := T15.setTop (mkF m 92 #[.val (.int i0), .val (.int i1), .val (.int i2), .val (.int (Int32.ofNat n)), .val (.ref b1), .val (.long (128 : Int64)), .second, .unset, .unset, .unset, .unset, .unset, .unset] [(.ref b1)])) (fun t k => XS.aload X15.here hx rfl (hb hby at_90) rfl rfl k) ?_
    obtain ⟨cq16, kq16, q16a, q16b, q16c⟩ := isOf hZ ec15 E_b1
    obtain ⟨_, _, ⟨T16, L16, k16, n16⟩, -, X16, ⟨Lc16, hQ16, l16, y16, z16⟩, st16⟩ := X15.virtualBack hx (y := (⟨"com/example/bivista/bivista/rows/HashSlots", "bytesToAdd", "()J"⟩ : MethodName)) (z := (⟨"com/example/bivista/bivista/rows/HashSlots", "bytesToAdd", "()J"⟩ : MethodName)) hown (mvT hZ (hw _ (List.mem_of_getElem? (i := 23) rfl))) (mvT hZ (hw _ (List.mem_of_getElem? (i := 24) rfl))) (notFace_of_selects (args := #[]) (mvT hZ (hw _ (List.mem_of_getElem? (i := 26) rfl)))) (mvT hZ (hw _ (List.mem_of_getElem? (i := 26) rfl))) (mvT hZ (hw _ (List.mem_of_getElem? (i := 25) rfl))) (by decide) (backOf (W := 0) (rmT0 l Z a0 hw [] b1 b2 n _ T10.heap n0 Zs F_size_b1 F_slots_b1 V_b2 (by omega)) hZ (hw _ (List.mem_of_getElem? (i := 27) rfl)) (hw _ (List.mem_of_getElem? (i := 3) rfl)) (by decide) (by decide)) q16a q16c (g := (mkF m 92 #[.val (.int i0), .val (.int i1), .val (.int i2), .val (.int (Int32.ofNat n)), .val (.ref b1), .val (.long (128 : Int64)), .second, .unset, .unset, .unset, .unset, .unset, .unset] [(.ref b1)])) rfl (by rw [hml]; rfl) (Steps.refl _) (argsL := []) (rest := []) (lenOf own_pd3 rfl) rfl (by show 2 * 0 + _ ≤ _; exact Nat.le_of_eq rfl) (hb hby at_92) (fun _ _ => ⟨rfl, ec15, (by decide : 2 + 0 ≤ _), (by decide : 18 + 0 ≤ _)⟩)
    dsimp only [Pt.U, Pt.locs, Pt.cells, Pt.slots] at X16 l16 y16 z16 st16 hQ16
    subst l16 y16 z16
    obtain ⟨rfl, Nq16, hp16⟩ := hQ16
    have Nf := Fr.app Nf Nq16
    have ec16 : T16.heap = T10.heap := hp16
    refine own_by (B := T16.setTop (mkF m 95 #[.val (.int i0), .val (.int i1), .val (.int i2), .val (.int (Int32.ofNat n)), .val (.ref b1), .val (.long (128 : Int64)), .second, .unset, .unset, .unset, .unset, .unset, .unset] [(.long (0 : Int64))])) (fun t k => st16.trans k) ?_
    refine own_by (B := T16.setTop (mkF m 97 #[.val (.int i0), .val (.int i1), .val (.int i2), .val (.int (Int32.ofNat n)), .val (.ref b1), .val (.long (128 : Int64)), .second, .val (.long (0 : Int64)), .second, .unset, .unset, .unset, .unset] [])) (fun t k => XS.lstore X16.here hx rfl (hb hby at_95) rfl (l' := #[.val (.int i0), .val (.int i1), .val (.int i2), .val (.int (Int32.ofNat n)), .val (.ref b1), .val (.long (128 : Int64)), .second, .val (.long (0 : Int64)), .second, .unset, .unset, .unset, .unset]) rfl k) ?_
    refine own_by (B := T16.setTop (mkF m 99 #[.val (.int i0), .val (.int i1), .val (.int i2), .val (.int (Int32.ofNat n)), .val (.ref b1), .val (.long (128 : Int64)), .second, .val (.long (0 : Int64)), .second, .unset, .unset, .unset, .unset] [(.ref b1)])) (fun t k => XS.aload X16.here hx rfl (hb hby at_97) rfl rfl k) ?_
    refine own_by (B := T16.setTop (mkF m 100 #[.val (.int i0), .val (.int i1), .val (.int i2), .val (.int (Int32.ofNat n)), .val (.ref b1), .val (.long (128 : Int64)), .second, .val (.long (0 : Int64)), .second, .unset, .unset, .unset, .unset] [(.int (Int32.ofNat n)), (.ref b1)])) (fun t k => XS.iloadN X16.here hx rfl (hb hby at_99) rfl k) ?_
    refine own_by (B := T16.setTop (mkF m 101 #[.val (.int i0), .val (.int i1), .val (.int i2), .val (.int (Int32.ofNat n)), .val (.ref b1), .val (.long (128 : Int64)), .second, .val (.long (0 : Int64)), .second, .unset, .unset, .unset, .unset] [(.int i2), (.int (Int32.ofNat n)), (.ref b1)])) (fun t k => XS.iloadN X16.here hx rfl (hb hby at_100) rfl k) ?_
    refine own_by (B := T16.setTop (mkF m 103 #[.val (.int i0), .val (.int i1), .val (.int i2), .val (.int (Int32.ofNat n)), .val (.ref b1), .val (.long (128 : Int64)), .second, .val (.long (0 : Int64)), .second, .unset, .unset, .unset, .unset] [(.int (-32 : Int32)), (.int i2), (.int (Int32.ofNat n)), (.ref b1)])) (fun t k => XS.bipush X16.here hx rfl (hb hby at_101) k) ?_
    refine own_by (B := T16.setTop (mkF m 104 #[.val (.int i0), .val (.int i1), .val (.int i2), .val (.int (Int32.ofNat n)), .val (.ref b1), .val (.long (128 : Int64)), .second, .val (.long (0 : Int64)), .second, .unset, .unset, .unset, .unset] [(.int (i2 &&& (-32 : Int32))), (.int (Int32.ofNat n)), (.ref b1)])) (fun t k => XS.iand X16.here hx rfl (hb hby at_103) rfl k) ?_
    refine own_by (B := T16.setTop (mkF m 105 #[.val (.int i0), .val (.int i1), .val (.int i2), .val (.int (Int32.ofNat n)), .val (.ref b1), .val (.long (128 : Int64)), .second, .val (.long (0 : Int64)), .second, .unset, .unset, .unset, .unset] [(.int (Int32.ofNat n)), (.int (i2 &&& (-32 : Int32))), (.int (Int32.ofNat n)), (.ref b1)])) (fun t k => XS.iloadN X16.here hx rfl (hb hby at_104) rfl k) ?_
    refine own_by (B := T16.setTop (mkF m 106 #[.val (.int i0), .val (.int i1), .val (.int i2), .val (.int (Int32.ofNat n)), .val (.ref b1), .val (.long (128 : Int64)), .second, .val (.long (0 : Int64)), .second, .unset, .unset, .unset, .unset] [(.int ((i2 &&& (-32 : Int32)) ||| (Int32.ofNat n))), (.int (Int32.ofNat n)), (.ref b1)])) (fun t k => XS.ior X16.here hx rfl (hb hby at_105) rfl k) ?_
    refine own_by (B := T16.setTop (mkF m 107 #[.val (.int i0), .val (.int i1), .val (.int i2), .val (.int (Int32.ofNat n)), .val (.ref b1), .val (.long (128 : Int64)), .second, .val (.long (0 : Int64)), .second, .unset, .unset, .unset, .unset] [(.int (Int32.ofNat n)), (.int ((i2 &&& (-32 : Int32)) ||| (Int32.ofNat n))), (.int (Int32.ofNat n)), (.ref b1)])) (fun t k => XS.iloadN X16.here hx rfl (hb hby at_106) rfl k) ?_
    obtain ⟨cq17, kq17, q17a, q17b, q17c⟩ := isOf hZ ec16 E_b1
    obtain ⟨_, _, ⟨T17, L17, k17, n17⟩, -, X17, ⟨Lc17, hQ17, l17, y17, z17⟩, st17⟩ := X16.virtualBack hx (y := (⟨"com/example/bivista/bivista/rows/HashSlots", "add", "(III)V"⟩ : MethodName)) (z := (⟨"com/example/bivista/bivista/rows/HashSlots", "add", "(III)V"⟩ : MethodName)) hown (mvT hZ (hw _ (List.mem_of_getElem? (i := 30) rfl))) (mvT hZ (hw _ (List.mem_of_getElem? (i := 31) rfl))) (notFace_of_selects (args := #[]) (mvT hZ (hw _ (List.mem_of_getElem? (i := 33) rfl)))) (mvT hZ (hw _ (List.mem_of_getElem? (i := 33) rfl))) (mvT hZ (hw _ (List.mem_of_getElem? (i := 32) rfl))) (by decide) (backOf (W := 0) (rmA l Z a0 hw [] b1 n ((i2 &&& (-32 : Int32)) ||| (Int32.ofNat n)) (Int32.ofNat n) b2 n _ T10.heap n0 Zs E_b1 F_size_b1 F_slots_b1 g_b1 g_b2 ne_b1_b2 (by omega) (by omega) V_b2) hZ (hw _ (List.mem_of_getElem? (i := 34) rfl)) (hw _ (List.mem_of_getElem? (i := 3) rfl)) (by decide) (by decide)) q17a q17c (g := (mkF m 107 #[.val (.int i0), .val (.int i1), .val (.int i2), .val (.int (Int32.ofNat n)), .val (.ref b1), .val (.long (128 : Int64)), .second, .val (.long (0 : Int64)), .second, .unset, .unset, .unset, .unset] [(.int (Int32.ofNat n)), (.int ((i2 &&& (-32 : Int32)) ||| (Int32.ofNat n))), (.int (Int32.ofNat n)), (.ref b1)])) rfl (by rw [hml]; rfl) (Steps.refl _) (argsL := [(.int (Int32.ofNat n)), (.int ((i2 &&& (-32 : Int32)) ||| (Int32.ofNat n))), (.int (Int32.ofNat n))]) (rest := []) (lenOf own_pd1 rfl) rfl (by show 2 * 0 + _ ≤ _; exact Nat.le_of_eq rfl) (hb hby at_107) (fun _ _ => ⟨rfl, ec16, (by decide : 2 + 0 ≤ _), (by decide : 18 + 0 ≤ _)⟩)
    dsimp only [Pt.U, Pt.locs, Pt.cells, Pt.slots] at X17 l17 y17 z17 st17 hQ17
    subst l17 y17 z17
    obtain ⟨rfl, Nq17, Kc17, Fs17, Fb17, Vc17⟩ := hQ17
    have Nf := Fr.app Nf Nq17
    have E_b1 := E_b1.keep Kc17
    have Zs := Nat.le_trans Zs Kc17.1
    have F_slots_b1 := Fb17
    have V_b2 := Vc17
    refine own_by (B := T17.setTop (mkF m 110 #[.val (.int i0), .val (.int i1), .val (.int i2), .val (.int (Int32.ofNat n)), .val (.ref b1), .val (.long (128 : Int64)), .second, .val (.long (0 : Int64)), .second, .unset, .unset, .unset, .unset] [])) (fun t k => st17.trans k) ?_
    refine own_by (B := T17.setTop (mkF m 112 #[.val (.int i0), .val (.int i1), .val (.int i2), .val (.int (Int32.ofNat n)), .val (.ref b1), .val (.long (128 : Int64)), .second, .val (.long (0 : Int64)), .second, .unset, .unset, .unset, .unset] [(.ref b1)])) (fun t k => XS.aload X17.here hx rfl (hb hby at_110) rfl rfl k) ?_
    obtain ⟨cq18, kq18, q18a, q18b, q18c⟩ := isOf hZ rfl E_b1
    obtain ⟨_, _, ⟨T18, L18, k18, n18⟩, -, X18, ⟨Lc18, hQ18, l18, y18, z18⟩, st18⟩ := X17.virtualBack hx (y := (⟨"com/example/bivista/bivista/rows/HashSlots", "bytes", "()J"⟩ : MethodName)) (z := (⟨"com/example/bivista/bivista/rows/HashSlots", "bytes", "()J"⟩ : MethodName)) hown (mvT hZ (hw _ (List.mem_of_getElem? (i := 17) rfl))) (mvT hZ (hw _ (List.mem_of_getElem? (i := 18) rfl))) (notFace_of_selects (args := #[]) (mvT hZ (hw _ (List.mem_of_getElem? (i := 20) rfl)))) (mvT hZ (hw _ (List.mem_of_getElem? (i := 20) rfl))) (mvT hZ (hw _ (List.mem_of_getElem? (i := 19) rfl))) (by decide) (backOf (W := 0) (rmB16 l Z a0 hw [] b1 b2 _ T17.heap n0 Zs F_slots_b1 V_b2) hZ (hw _ (List.mem_of_getElem? (i := 21) rfl)) (hw _ (List.mem_of_getElem? (i := 3) rfl)) (by decide) (by decide)) q18a q18c (g := (mkF m 112 #[.val (.int i0), .val (.int i1), .val (.int i2), .val (.int (Int32.ofNat n)), .val (.ref b1), .val (.long (128 : Int64)), .second, .val (.long (0 : Int64)), .second, .unset, .unset, .unset, .unset] [(.ref b1)])) rfl (by rw [hml]; rfl) (Steps.refl _) (argsL := []) (rest := []) (lenOf own_pd3 rfl) rfl (by show 2 * 0 + _ ≤ _; exact Nat.le_of_eq rfl) (hb hby at_112) (fun _ _ => ⟨rfl, rfl, (by decide : 2 + 0 ≤ _), (by decide : 18 + 0 ≤ _)⟩)
    dsimp only [Pt.U, Pt.locs, Pt.cells, Pt.slots] at X18 l18 y18 z18 st18 hQ18
    subst l18 y18 z18
    obtain ⟨rfl, Nq18, hp18⟩ := hQ18
    have Nf := Fr.app Nf Nq18
    have ec18 : T18.heap = T17.heap := hp18
    refine own_by (B := T18.setTop (mkF m 115 #[.val (.int i0), .val (.int i1), .val (.int i2), .val (.int (Int32.ofNat n)), .val (.ref b1), .val (.long (128 : Int64)), .second, .val (.long (0 : Int64)), .second, .unset, .unset, .unset, .unset] [(.long (128 : Int64))])) (fun t k => st18.trans k) ?_
    refine own_by (B := T18.setTop (mkF m 117 #[.val (.int i0), .val (.int i1), .val (.int i2), .val (.int (Int32.ofNat n)), .val (.ref b1), .val (.long (128 : Int64)), .second, .val (.long (0 : Int64)), .second, .val (.long (128 : Int64)), .second, .unset, .unset] [])) (fun t k => XS.lstore X18.here hx rfl (hb hby at_115) rfl (l' := #[.val (.int i0), .val (.int i1), .val (.int i2), .val (.int (Int32.ofNat n)), .val (.ref b1), .val (.long (128 : Int64)), .second, .val (.long (0 : Int64)), .second, .val (.long (128 : Int64)), .second, .unset, .unset]) rfl k) ?_
    refine own_by (B := T18.setTop (mkF m 118 #[.val (.int i0), .val (.int i1), .val (.int i2), .val (.int (Int32.ofNat n)), .val (.ref b1), .val (.long (128 : Int64)), .second, .val (.long (0 : Int64)), .second, .val (.long (128 : Int64)), .second, .unset, .unset] [(.int (Int32.ofNat n))])) (fun t k => XS.iloadN X18.here hx rfl (hb hby at_117) rfl k) ?_
    refine own_by (B := T18.setTop (mkF m 120 #[.val (.int i0), .val (.int i1), .val (.int i2), .val (.int (Int32.ofNat n)), .val (.ref b1), .val (.long (128 : Int64)), .second, .val (.long (0 : Int64)), .second, .val (.long (128 : Int64)), .second, .unset, .unset] [(.int (8 : Int32)), (.int (Int32.ofNat n))])) (fun t k => XS.bipush X18.here hx rfl (hb hby at_118) k) ?_
    refine own_by (B := T18.setTop (mkF m 129 #[.val (.int i0), .val (.int i1), .val (.int i2), .val (.int (Int32.ofNat n)), .val (.ref b1), .val (.long (128 : Int64)), .second, .val (.long (0 : Int64)), .second, .val (.long (128 : Int64)), .second, .unset, .unset] [])) (fun t k => XS.icmpYes X18.here hx rfl (pc0 := 120) (pc' := 129) rfl (hb hby at_120) rfl (feq (fun q => h8 (own_injN (m := 8) (by omega) (by omega) q))).2 (by decide) (by decide) k) ?_
    refine own_by (B := T18.setTop (mkF m 130 #[.val (.int i0), .val (.int i1), .val (.int i2), .val (.int (Int32.ofNat n)), .val (.ref b1), .val (.long (128 : Int64)), .second, .val (.long (0 : Int64)), .second, .val (.long (128 : Int64)), .second, .unset, .unset] [(.long (0 : Int64))])) (fun t k => XS.lconst X18.here hx rfl (hb hby at_129) k) ?_
    refine own_by (B := T18.setTop (mkF m 132 #[.val (.int i0), .val (.int i1), .val (.int i2), .val (.int (Int32.ofNat n)), .val (.ref b1), .val (.long (128 : Int64)), .second, .val (.long (0 : Int64)), .second, .val (.long (128 : Int64)), .second, .val (.long (0 : Int64)), .second] [])) (fun t k => XS.lstore X18.here hx rfl (hb hby at_130) rfl (l' := #[.val (.int i0), .val (.int i1), .val (.int i2), .val (.int (Int32.ofNat n)), .val (.ref b1), .val (.long (128 : Int64)), .second, .val (.long (0 : Int64)), .second, .val (.long (128 : Int64)), .second, .val (.long (0 : Int64)), .second]) rfl k) ?_
    refine own_by (B := T18.setTop (mkF m 134 #[.val (.int i0), .val (.int i1), .val (.int i2), .val (.int (Int32.ofNat n)), .val (.ref b1), .val (.long (128 : Int64)), .second, .val (.long (0 : Int64)), .second, .val (.long (128 : Int64)), .second, .val (.long (0 : Int64)), .second] [(.long (128 : Int64))])) (fun t k => XS.lload X18.here hx rfl (hb hby at_132) rfl k) ?_
    refine own_by (B := T18.setTop (mkF m 137 #[.val (.int i0), .val (.int i1), .val (.int i2), .val (.int (Int32.ofNat n)), .val (.ref b1), .val (.long (128 : Int64)), .second, .val (.long (0 : Int64)), .second, .val (.long (128 : Int64)), .second, .val (.long (0 : Int64)), .second] [(.long (128 : Int64)), (.long (128 : Int64))])) (fun t k => X18.ldc2Long hx hown (mvT hZ (hw _ (List.mem_of_getElem? (i := 35) rfl))) (g := (mkF m 134 #[.val (.int i0), .val (.int i1), .val (.int i2), .val (.int (Int32.ofNat n)), .val (.ref b1), .val (.long (128 : Int64)), .second, .val (.long (0 : Int64)), .second, .val (.long (128 : Int64)), .second, .val (.long (0 : Int64)), .second] [(.long (128 : Int64))])) rfl (hb hby at_134) _ k) ?_
    refine own_by (B := T18.setTop (mkF m 138 #[.val (.int i0), .val (.int i1), .val (.int i2), .val (.int (Int32.ofNat n)), .val (.ref b1), .val (.long (128 : Int64)), .second, .val (.long (0 : Int64)), .second, .val (.long (128 : Int64)), .second, .val (.long (0 : Int64)), .second] [(.int (0 : Int32))])) (fun t k => XS.lcmp X18.here hx rfl (hb hby at_137) rfl k) ?_
    refine own_by (B := T18.setTop (mkF m 141 #[.val (.int i0), .val (.int i1), .val (.int i2), .val (.int (Int32.ofNat n)), .val (.ref b1), .val (.long (128 : Int64)), .second, .val (.long (0 : Int64)), .second, .val (.long (128 : Int64)), .second, .val (.long (0 : Int64)), .second] [])) (fun t k => XS.ifNo X18.here hx rfl (hb hby at_138) rfl ((if0 _ _).trans (teq (by decide)).2) k) ?_
    refine own_by (B := T18.setTop (mkF m 143 #[.val (.int i0), .val (.int i1), .val (.int i2), .val (.int (Int32.ofNat n)), .val (.ref b1), .val (.long (128 : Int64)), .second, .val (.long (0 : Int64)), .second, .val (.long (128 : Int64)), .second, .val (.long (0 : Int64)), .second] [(.long (0 : Int64))])) (fun t k => XS.lload X18.here hx rfl (hb hby at_141) rfl k) ?_
    refine own_by (B := T18.setTop (mkF m 145 #[.val (.int i0), .val (.int i1), .val (.int i2), .val (.int (Int32.ofNat n)), .val (.ref b1), .val (.long (128 : Int64)), .second, .val (.long (0 : Int64)), .second, .val (.long (128 : Int64)), .second, .val (.long (0 : Int64)), .second] [(.long (0 : Int64)), (.long (0 : Int64))])) (fun t k => XS.lload X18.here hx rfl (hb hby at_143) rfl k) ?_
    refine own_by (B := T18.setTop (mkF m 146 #[.val (.int i0), .val (.int i1), .val (.int i2), .val (.int (Int32.ofNat n)), .val (.ref b1), .val (.long (128 : Int64)), .second, .val (.long (0 : Int64)), .second, .val (.long (128 : Int64)), .second, .val (.long (0 : Int64)), .second] [(.int (0 : Int32))])) (fun t k => XS.lcmp X18.here hx rfl (hb hby at_145) rfl k) ?_
    refine own_by (B := T18.setTop (mkF m 149 #[.val (.int i0), .val (.int i1), .val (.int i2), .val (.int (Int32.ofNat n)), .val (.ref b1), .val (.long (128 : Int64)), .second, .val (.long (0 : Int64)), .second, .val (.long (128 : Int64)), .second, .val (.long (0 : Int64)), .second] [])) (fun t k => XS.ifNo X18.here hx rfl (hb hby at_146) rfl ((if0 _ _).trans (teq (by decide)).2) k) ?_
    refine own_by (B := T18.setTop (mkF m 151 #[.val (.int i0), .val (.int i1), .val (.int i2), .val (.int (Int32.ofNat n)), .val (.ref b1), .val (.long (128 : Int64)), .second, .val (.long (0 : Int64)), .second, .val (.long (128 : Int64)), .second, .val (.long (0 : Int64)), .second] [(.long (128 : Int64))])) (fun t k => XS.lload X18.here hx rfl (hb hby at_149) rfl k) ?_
    refine own_by (B := T18.setTop (mkF m 153 #[.val (.int i0), .val (.int i1), .val (.int i2), .val (.int (Int32.ofNat n)), .val (.ref b1), .val (.long (128 : Int64)), .second, .val (.long (0 : Int64)), .second, .val (.long (128 : Int64)), .second, .val (.long (0 : Int64)), .second] [(.long (128 : Int64)), (.long (128 : Int64))])) (fun t k => XS.lload X18.here hx rfl (hb hby at_151) rfl k) ?_
    refine own_by (B := T18.setTop (mkF m 154 #[.val (.int i0), .val (.int i1), .val (.int i2), .val (.int (Int32.ofNat n)), .val (.ref b1), .val (.long (128 : Int64)), .second, .val (.long (0 : Int64)), .second, .val (.long (128 : Int64)), .second, .val (.long (0 : Int64)), .second] [(.long (0 : Int64))])) (fun t k => XS.lsub X18.here hx rfl (hb hby at_153) rfl k) ?_
    refine own_by (B := T18.setTop (mkF m 156 #[.val (.int i0), .val (.int i1), .val (.int i2), .val (.int (Int32.ofNat n)), .val (.ref b1), .val (.long (128 : Int64)), .second, .val (.long (0 : Int64)), .second, .val (.long (128 : Int64)), .second, .val (.long (0 : Int64)), .second] [(.long (0 : Int64)), (.long (0 : Int64))])) (fun t k => XS.lload X18.here hx rfl (hb hby at_154) rfl k) ?_
    refine own_by (B := T18.setTop (mkF m 157 #[.val (.int i0), .val (.int i1), .val (.int i2), .val (.int (Int32.ofNat n)), .val (.ref b1), .val (.long (128 : Int64)), .second, .val (.long (0 : Int64)), .second, .val (.long (128 : Int64)), .second, .val (.long (0 : Int64)), .second] [(.int (0 : Int32))])) (fun t k => XS.lcmp X18.here hx rfl (hb hby at_156) rfl k) ?_
    refine own_by (B := T18.setTop (mkF m 160 #[.val (.int i0), .val (.int i1), .val (.int i2), .val (.int (Int32.ofNat n)), .val (.ref b1), .val (.long (128 : Int64)), .second, .val (.long (0 : Int64)), .second, .val (.long (128 : Int64)), .second, .val (.long (0 : Int64)), .second] [])) (fun t k => XS.ifNo X18.here hx rfl (hb hby at_157) rfl ((if0 _ _).trans (teq (by decide)).2) k) ?_
    refine own_by (B := T18.setTop (mkF m 161 #[.val (.int i0), .val (.int i1), .val (.int i2), .val (.int (Int32.ofNat n)), .val (.ref b1), .val (.long (128 : Int64)), .second, .val (.long (0 : Int64)), .second, .val (.long (128 : Int64)), .second, .val (.long (0 : Int64)), .second] [(.int (1 : Int32))])) (fun t k => XS.iconst X18.here hx rfl (hb hby at_160) k) ?_
    refine own_by (B := T18.setTop (mkF m 165 #[.val (.int i0), .val (.int i1), .val (.int i2), .val (.int (Int32.ofNat n)), .val (.ref b1), .val (.long (128 : Int64)), .second, .val (.long (0 : Int64)), .second, .val (.long (128 : Int64)), .second, .val (.long (0 : Int64)), .second] [(.int (1 : Int32))])) (fun t k => XS.goto X18.here hx rfl (pc0 := 161) (pc' := 165) rfl (hb hby at_161) (by decide) (by decide) k) ?_
    exact own_end X18 (v := some (.int (1 : Int32))) (fun h => by rw [Bd.returns] at h; cases h) (BodyLoose.notSynchronized Bd) (Q := (Q_rm0 Z i0 i1 i2 h0 n0)) (fun fs hr => retN X18 hx (t := .boolean) Bd.returns (by simp) (hb hby at_165) hr) (show (Q_rm0 Z i0 i1 i2 h0 n0) _ T18.heap _ from (by rw [ec18]; exact ⟨rfl, Nf⟩)) (by decide) (by decide)
set_option maxRecDepth 65536 in
set_option maxHeartbeats 40000000 in
theorem comes_1 {Post : Tables → Env → Array Value → State → Outcome → State → Prop} (hpost : ∀ tb e args s v u, (limb_1_1.after args s (.returned v) u = true ∧ limb_1_2.after args s (.returned v) u = true ∧ True) → FrameEnd s (.returned v) u (Jvm.fieldLocs frame_1_writes args s ++ Jvm.arrayLocs frame_1_arrays args s ++ Jvm.staticLocs frame_1_statics s) 16 192 → Post tb e args s (.returned v) u) :
    ArmFor flags0 classFile x code maxLocals ret World_1 tables_1 room_1 Calls_1 rest_1 Pre_1 Post := by
  intro l hfl _ _ p e ha hc hk s m args below hf hA hF happ hP
  obtain ⟨hcalls, hrest, hpre⟩ := hP
  obtain ⟨-, -, -, hnamed, -, -, -, hat⟩ := (Spec.applies_iff hf).mp happ
  obtain ⟨hg, hn⟩ := and_e (Cond.before_iff.mp (show (Jvm.Cond.and given_1 narrow_1).before args s = true from hpre))
  obtain ⟨hcount, hg0⟩ := and_e hg
  obtain ⟨hv0, hg1⟩ := and_e hg0
  obtain ⟨hv1, hg2⟩ := and_e hg1
  have hv2 := hg2
  obtain ⟨w0, w1, w2, rfl⟩ : ∃ w0 w1 w2 : Value, args = #[w0, w1, w2] := by
    have hs : args.size = 3 := by simpa [Cond.value, given_1] using hcount
    obtain ⟨L⟩ := args
    match L, hs with
    | [w0, w1, w2], _ => exact ⟨w0, w1, w2, rfl⟩
  have hw := fun d (hd : d ∈ tables_1) => atoms_spec (ws := Jvm.Cond.code x code maxLocals ret :: tables_1) hat d (List.mem_cons_of_mem _ hd)
  have hfit : Fit s := fun {y c} hc i hi => by
    obtain ⟨ha, rfl⟩ := Array.getElem?_eq_some_iff.mp hc
    have q := List.all_eq_true.mp ((Array.all_eq_true_iff_forall_mem.mp hF) _ (Array.getElem_mem ha)) i (List.mem_range.mpr hi)
    simpa [Array.getElem?_eq_getElem hi] using q
  obtain ⟨i0, ei0⟩ := is_v hv0
  obtain rfl : w0 = (.int i0) := Option.some.inj ei0
  obtain ⟨i1, ei1⟩ := is_v hv1
  obtain rfl : w1 = (.int i1) := Option.some.inj ei1
  obtain ⟨i2, ei2⟩ := is_v hv2
  obtain rfl : w2 = (.int i2) := Option.some.inj ei2
  obtain ⟨n, o, h1, h2, h3, _, L, rfl, ⟨rfl, N⟩, hq⟩ := rm0 l s _ hw tables_1 i0 i1 i2 s.heap s.heap.size (Nat.le_refl _)  p e ha hc hk s m _ below hf ((Spec.applies_iff_loose hf).mp happ).1 ⟨rfl, State.Warmed39.refl s, rfl⟩ trivial
  refine ⟨n, _, h1, h2, h3, hpost _ _ _ _ _ _ ⟨Cond.after_iff.mpr rfl, Cond.after_iff.mpr (eq_i res_at (Term.int_eval (1)) rfl), trivial⟩ ⟨hq.1, hq.2.1, (hq.2.2.sift fun y hy => Or.inr (N y hy)).mono (by decide) (by decide)⟩⟩
theorem main_1_1 : Claimed_1_1 := comes_1 fun _ _ _ _ _ _ h hF => ⟨h.1, hF⟩
theorem main_1_2 : Claimed_1_2 := comes_1 fun _ _ _ _ _ _ h hF => ⟨h.2.1, hF⟩
end Jvm.Pilot.@@N@@
namespace Jvm.Pilot.@@N@@
open Jvm Jvm.ClassFile Sem Op Lib Jvm.Free Jvm.Stand Jvm.Pilot.@@N@@.Jvm.D
/-! MADE BY PROGRAM (witnessworld.py) out of the Statement's table words and the real class files: 11 classes; the members and pool entries that the words name. The judged class is class 1, her method 1. -/
namespace start1
open Jvm.ClassFile
def u (s : String) : CpInfo := .utf8 (stringToUtf16 s)
/-- a pool by its gaps: so many unusable entries, then the entry; so many at the end -/
def gap : Nat → List CpInfo → List CpInfo
  | 0, r => r
  | n + 1, r => .unusable :: gap n r
def poolList (es : List (Nat × CpInfo)) (last : Nat) : List CpInfo := es.foldr (fun e r => gap e.1 (e.2 :: r)) (gap last [])
def pool (es : List (Nat × CpInfo)) (last : Nat) : Array CpInfo := ⟨poolList es last⟩
def fileOf (pool : Array CpInfo) (this : Nat) (attrs : Array Attribute := #[]) (ms : Array MethodInfo := #[]) (fl : Nat := 33) (sup : Nat := 0) (ifs : Array Nat := #[]) (fds : Array FieldInfo := #[]) : ClassFile where
  minorVersion := 0
  majorVersion := 65
  constantPool := pool
  accessFlags := fl
  thisClass := this
  superClass := sup
  interfaces := ifs
  fields := fds
  methods := ms
  attributes := attrs
def plain (name : String) (sup : Option ClassId) : Class where
  name := name
  kind := .ordinary
  loader := none
  accessFlags := 33
  super := sup
  interfaces := #[]
  cf := none
  fields := #[]
  methods := #[]
  instanceTypes := #[]
  staticTypes := #[]
  resolved := #[]
  callSites := []
  init := .initialized
  statics := none
  mirror := none

def pool0 : Array CpInfo := pool [(5, u "<init>"), (0, u "()V"), (1, .class_ 10), (1, u "java/lang/Object")] 113

def k0c0 : Code := { maxStack := 0, maxLocals := 1, code := object_method_1_code, exceptionTable := #[], attributes := #[] }
def k0m0 : Method := { name := "<init>", desc := "()V", sig := { parameters := [], returnType := none }, accessFlags := 1, code := some k0c0 }
/-- java/lang/Object -/
def k0 : Class := { plain "java/lang/Object" none with
  accessFlags := 33
  interfaces := #[]
  cf := some (fileOf pool0 8 #[] #[{ accessFlags := 1, nameIndex := 5, descriptorIndex := 6, attributes := #[] }] 33 0 #[] #[])
  fields := #[]
  methods := #[k0m0]
  instanceTypes := #[]
  staticTypes := #[]
  resolved := Array.replicate 124 none
  statics := none }

def pool1 : Array CpInfo := pool [(2, .class_ 4), (0, .nameAndType 5 6), (0, u "java/lang/Object"), (0, u "<init>"), (0, u "()V"), (0, .integer 2147483647), (0, .class_ 9), (0, u "com/example/bivista/bivista/rows/HashSlots"), (0, .methodref 8 3), (0, .methodref 12 13), (0, .class_ 14), (0, .nameAndType 15 16), (0, u "com/example/bivista/bivista/rows/HashSlotsBytesToAddPinLaw"), (0, u "fill"), (0, u "(Lcom/example/bivista/bivista/rows/HashSlots;III)V"), (0, .methodref 8 18), (0, .nameAndType 19 20), (0, u "bytes"), (0, u "()J"), (0, .methodref 8 22), (0, .nameAndType 23 20), (0, u "bytesToAdd"), (0, .methodref 8 25), (0, .nameAndType 26 27), (0, u "add"), (0, u "(III)V"), (0, .long 128), (3, u "law"), (0, u "(III)Z")] 3

def k1m0 : Method := { name := "<init>", desc := "()V", sig := { parameters := [], returnType := none }, accessFlags := 1, code := none }
def k1c1 : Code := { maxStack := 4, maxLocals := 13, code := code, exceptionTable := #[], attributes := #[] }
def k1m1 : Method := { name := "law", desc := "(III)Z", sig := { parameters := [.int, .int, .int], returnType := some .boolean }, accessFlags := 9, code := some k1c1 }
def k1c2 : Code := { maxStack := 5, maxLocals := 4, code := method_3_code, exceptionTable := #[], attributes := #[] }
def k1m2 : Method := { name := "fill", desc := "(Lcom/example/bivista/bivista/rows/HashSlots;III)V", sig := { parameters := [(.object "com/example/bivista/bivista/rows/HashSlots"), .int, .int, .int], returnType := none }, accessFlags := 10, code := some k1c2 }
/-- com/example/bivista/bivista/rows/HashSlotsBytesToAddPinLaw -/
def k1 : Class := { plain "com/example/bivista/bivista/rows/HashSlotsBytesToAddPinLaw" (some 0) with
  accessFlags := 49
  interfaces := #[]
  cf := some (fileOf pool1 12 #[] #[{ accessFlags := 1, nameIndex := 5, descriptorIndex := 6, attributes := #[] }, { accessFlags := 9, nameIndex := 32, descriptorIndex := 33, attributes := #[] }, { accessFlags := 10, nameIndex := 15, descriptorIndex := 16, attributes := #[] }] 49 2 #[] #[])
  fields := #[]
  methods := #[k1m0, k1m1, k1m2]
  instanceTypes := #[]
  staticTypes := #[]
  resolved := Array.replicate 37 none
  statics := none }

def pool2 : Array CpInfo := pool [(1, .methodref 2 3), (0, .class_ 4), (0, .nameAndType 5 6), (0, u "java/lang/Object"), (0, u "<init>"), (0, u "()V"), (0, .class_ 8), (0, u "com/example/bivista/bivista/rows/HashSlots"), (0, .fieldref 7 10), (0, .nameAndType 11 12), (0, u "slots"), (0, u "[J"), (0, .fieldref 7 14), (0, .nameAndType 15 16), (0, u "size"), (0, u "I"), (0, .methodref 7 18), (0, .nameAndType 19 6), (0, u "grow"), (0, .long 8), (1, .integer 1073741824), (7, u "EMPTY"), (2, u "MAX_SLOTS"), (0, u "FIRST_SLOTS"), (8, u "add"), (0, u "(III)V"), (2, u "bytesToAdd"), (0, u "()J"), (0, u "bytes")] 4

def k2c0 : Code := { maxStack := 2, maxLocals := 1, code := prog_159_method_1_code, exceptionTable := #[], attributes := #[] }
def k2m0 : Method := { name := "<init>", desc := "()V", sig := { parameters := [], returnType := none }, accessFlags := 0, code := some k2c0 }
def k2c1 : Code := { maxStack := 6, maxLocals := 4, code := prog_159_method_6_code, exceptionTable := #[], attributes := #[] }
def k2m1 : Method := { name := "add", desc := "(III)V", sig := { parameters := [.int, .int, .int], returnType := none }, accessFlags := 0, code := some k2c1 }
def k2c2 : Code := { maxStack := 4, maxLocals := 1, code := prog_159_method_8_code, exceptionTable := #[], attributes := #[] }
def k2m2 : Method := { name := "bytesToAdd", desc := "()J", sig := { parameters := [], returnType := some .long }, accessFlags := 0, code := some k2c2 }
def k2c3 : Code := { maxStack := 4, maxLocals := 1, code := prog_159_method_9_code, exceptionTable := #[], attributes := #[] }
def k2m3 : Method := { name := "bytes", desc := "()J", sig := { parameters := [], returnType := some .long }, accessFlags := 0, code := some k2c3 }
def k2c4 : Code := { maxStack := 4, maxLocals := 9, code := prog_159_method_11_code, exceptionTable := #[], attributes := #[] }
def k2m4 : Method := { name := "grow", desc := "()V", sig := { parameters := [], returnType := none }, accessFlags := 2, code := some k2c4 }
/-- com/example/bivista/bivista/rows/HashSlots -/
def k2 : Class := { plain "com/example/bivista/bivista/rows/HashSlots" (some 0) with
  accessFlags := 48
  interfaces := #[]
  cf := some (fileOf pool2 7 #[] #[{ accessFlags := 0, nameIndex := 5, descriptorIndex := 6, attributes := #[] }, { accessFlags := 0, nameIndex := 43, descriptorIndex := 44, attributes := #[] }, { accessFlags := 0, nameIndex := 47, descriptorIndex := 48, attributes := #[] }, { accessFlags := 0, nameIndex := 49, descriptorIndex := 48, attributes := #[] }, { accessFlags := 2, nameIndex := 19, descriptorIndex := 6, attributes := #[] }] 48 2 #[] #[{ accessFlags := 24, nameIndex := 30, descriptorIndex := 16, attributes := #[] }, { accessFlags := 26, nameIndex := 33, descriptorIndex := 16, attributes := #[] }, { accessFlags := 26, nameIndex := 34, descriptorIndex := 16, attributes := #[] }, { accessFlags := 2, nameIndex := 11, descriptorIndex := 12, attributes := #[] }, { accessFlags := 2, nameIndex := 15, descriptorIndex := 16, attributes := #[] }])
  fields := #[{ name := "EMPTY", type := .int, accessFlags := 24, slot := 0, constantValue := 0 }, { name := "MAX_SLOTS", type := .int, accessFlags := 26, slot := 1, constantValue := 0 }, { name := "FIRST_SLOTS", type := .int, accessFlags := 26, slot := 2, constantValue := 0 }, { name := "slots", type := (.array .long), accessFlags := 2, slot := 0, constantValue := 0 }, { name := "size", type := .int, accessFlags := 2, slot := 1, constantValue := 0 }]
  methods := #[k2m0, k2m1, k2m2, k2m3, k2m4]
  instanceTypes := #[(.array .long), .int]
  staticTypes := #[.int, .int, .int]
  resolved := Array.replicate 54 none
  statics := none }

def pool3 : Array CpInfo := pool [(1, u "java/lang/Cloneable"), (0, .class_ 1), (0, u "java/lang/Object"), (0, .class_ 3)] 3

/-- java/lang/Cloneable -/
def k3 : Class := { plain "java/lang/Cloneable" (some 0) with
  accessFlags := 1537
  interfaces := #[]
  cf := some (fileOf pool3 2 #[] #[] 1537 4 #[] #[])
  fields := #[]
  methods := #[]
  instanceTypes := #[]
  staticTypes := #[]
  resolved := Array.replicate 8 none
  statics := none }

def pool4 : Array CpInfo := pool [(1, u "java/io/Serializable"), (0, .class_ 1), (0, u "java/lang/Object"), (0, .class_ 3)] 3

/-- java/io/Serializable -/
def k4 : Class := { plain "java/io/Serializable" (some 0) with
  accessFlags := 1537
  interfaces := #[]
  cf := some (fileOf pool4 2 #[] #[] 1537 4 #[] #[])
  fields := #[]
  methods := #[]
  instanceTypes := #[]
  staticTypes := #[]
  resolved := Array.replicate 8 none
  statics := none }

/-- the primitive byte -/
def k5 : Class := { plain "byte" none with kind := .primitive 'B', accessFlags := 0x411 }
/-- [B -/
def k6 : Class := { plain "[B" (some 0) with kind := .array 5 .byte, interfaces := #[3, 4], accessFlags := 1041 }

/-- the primitive int -/
def k7 : Class := { plain "int" none with kind := .primitive 'I', accessFlags := 0x411 }
/-- [I -/
def k8 : Class := { plain "[I" (some 0) with kind := .array 7 .int, interfaces := #[3, 4], accessFlags := 1041 }

/-- the primitive long -/
def k9 : Class := { plain "long" none with kind := .primitive 'J', accessFlags := 0x411 }
/-- [J -/
def k10 : Class := { plain "[J" (some 0) with kind := .array 9 .long, interfaces := #[3, 4], accessFlags := 1041 }

def heap : Heap := #[]
def classes : Array Class := #[k0, k1, k2, k3, k4, k5, k6, k7, k8, k9, k10]
def interned : List (Array UInt16 × Addr) := []
def slotsUsed : Nat := 0
def theMethod : MethodId := ⟨1, 1⟩
def args0 : Array Value := #[.int 2, .int 3, .int 4]
def aboutOver (below : List Frame) : State where
  vm := { classes := classes, interned := interned.toArray }
  heap := heap
  slotsUsed := slotsUsed
  threads := #[{ frames := .invoking theMethod args0 :: below }]
def below0 : List Frame := [.native { method := ⟨0, 0⟩, args := #[] }]
def about1 : State := aboutOver below0
def p0 : Program := .bare "" "" ""
def e0 : Env := launch0.env 0 0 0
theorem w_frames : about1.frames = Frame.invoking theMethod args0 :: below0 := rfl
set_option maxRecDepth 65536 in
theorem w_args : argsFit about1.vm theMethod args0 = true := by decide +kernel
set_option maxRecDepth 65536 in
theorem w_heap : heapFits about1 = true := by decide +kernel
set_option maxRecDepth 65536 in
theorem w_runnable : about1.curStatus? = some .runnable := by decide +kernel
set_option maxRecDepth 65536 in
theorem w_alone : about1.alone = true := by decide +kernel
set_option maxRecDepth 65536 in
theorem w_named : about1.methodNamed? x = some theMethod := by decide +kernel
set_option maxRecDepth 65536 in
theorem w_hears : about1.hears theMethod below0 = true := by decide +kernel
set_option maxRecDepth 65536 in
theorem w_ripe : about1.ripe theMethod args0 below0 = true := by decide +kernel
theorem w_running : about1.status = .running := rfl
set_option maxRecDepth 65536 in
theorem w_room : about1.hasRoom e0.platform room_1 = true :=
  launch0.hasRoom_least _ room_1 (by decide +kernel) (by decide +kernel) (by decide +kernel) (by decide +kernel) (by decide +kernel) (by decide +kernel)
theorem allAtoms_all (ts : List Jvm.Cond) (a : Array Jvm.Value) (st : Jvm.State) : (allAtoms ts).before a st = ts.all (fun c => c.before a st) := by
  induction ts with
  | nil => rfl
  | cons c t ih =>
    show (Jvm.Cond.and c (allAtoms t)).before a st = _
    rw [Jvm.Cond.before_and, ih, List.all_cons]
def words1 : List Jvm.Cond := Jvm.Cond.code x code maxLocals ret :: tables_1
/-- a 'code' word, met by the world's own term for the bytes: nothing is compared byte by byte -/
theorem code_word {y : MethodName} {bytes : ByteArray} {mx : Nat} {rt : Option FieldType} {a : Array Value} {s : State} {m : MethodId} {meth : Method} {c : Code} (h1 : s.methodNamed? y = some m) (h2 : s.vm.method? m = some meth) (h3 : meth.code = some c) (h4 : c.code = bytes)
    (h5 : (c.maxLocals == mx && c.exceptionTable.isEmpty && decide (c.maxStack ≤ mostOperands) && decide (meth.sig.returnType = rt) && !meth.locks && decide (parseMethodDescriptor y.desc = some meth.sig)) = true) : (Jvm.Cond.code y bytes mx rt).before a s = true := by
  simp only [Bool.and_eq_true, beq_iff_eq, Bool.not_eq_true', decide_eq_true_eq] at h5
  obtain ⟨⟨⟨⟨⟨g1, g2⟩, g3⟩, g4⟩, g5⟩, g6⟩ := h5
  simp [Cond.before, Cond.holds, Cond.value, h1, h2, h3, h4, g1, g2, g3, g4, g5, g6]
def isCode : Jvm.Cond → Bool
  | .code _ _ _ _ => true
  | _ => false
theorem all_split {L : List Jvm.Cond} {P : Jvm.Cond → Bool} (h1 : L.all (fun c => isCode c || P c) = true) (h2 : ∀ c ∈ L.filter isCode, P c = true) : L.all P = true := by
  refine List.all_eq_true.mpr fun c hc => ?_
  have h := List.all_eq_true.mp h1 c hc
  rcases Bool.eq_false_or_eq_true (isCode c) with hi | hi
  · exact h2 c (List.mem_filter.mpr ⟨hc, hi⟩)
  · simpa [hi] using h
set_option maxRecDepth 65536 in
theorem w_c0 : (Jvm.Cond.code x code maxLocals ret).before args0 about1 = true := code_word (m := ⟨1, 1⟩) (meth := k1m1) (c := k1c1) (by decide +kernel) rfl rfl rfl (by decide +kernel)
set_option maxRecDepth 65536 in
theorem w_c1 : (Jvm.Cond.code ({ cls := "com/example/bivista/bivista/rows/HashSlots", name := "<init>", desc := "()V" } : Jvm.MethodName) prog_159_method_1_code (1 : Nat) (Option.none : Option Jvm.ClassFile.FieldType)).before args0 about1 = true := code_word (m := ⟨2, 0⟩) (meth := k2m0) (c := k2c0) (by decide +kernel) rfl rfl rfl (by decide +kernel)
set_option maxRecDepth 65536 in
theorem w_c2 : (Jvm.Cond.code ({ cls := "java/lang/Object", name := "<init>", desc := "()V" } : Jvm.MethodName) object_method_1_code (1 : Nat) (Option.none : Option Jvm.ClassFile.FieldType)).before args0 about1 = true := code_word (m := ⟨0, 0⟩) (meth := k0m0) (c := k0c0) (by decide +kernel) rfl rfl rfl (by decide +kernel)
set_option maxRecDepth 65536 in
theorem w_c3 : (Jvm.Cond.code ({ cls := "com/example/bivista/bivista/rows/HashSlotsBytesToAddPinLaw", name := "fill", desc := "(Lcom/example/bivista/bivista/rows/HashSlots;III)V" } : Jvm.MethodName) method_3_code (4 : Nat) (Option.none : Option Jvm.ClassFile.FieldType)).before args0 about1 = true := code_word (m := ⟨1, 2⟩) (meth := k1m2) (c := k1c2) (by decide +kernel) rfl rfl rfl (by decide +kernel)
set_option maxRecDepth 65536 in
theorem w_c4 : (Jvm.Cond.code ({ cls := "com/example/bivista/bivista/rows/HashSlots", name := "bytes", desc := "()J" } : Jvm.MethodName) prog_159_method_9_code (1 : Nat) (Option.some Jvm.ClassFile.FieldType.long)).before args0 about1 = true := code_word (m := ⟨2, 3⟩) (meth := k2m3) (c := k2c3) (by decide +kernel) rfl rfl rfl (by decide +kernel)
set_option maxRecDepth 65536 in
theorem w_c5 : (Jvm.Cond.code ({ cls := "com/example/bivista/bivista/rows/HashSlots", name := "bytesToAdd", desc := "()J" } : Jvm.MethodName) prog_159_method_8_code (1 : Nat) (Option.some Jvm.ClassFile.FieldType.long)).before args0 about1 = true := code_word (m := ⟨2, 2⟩) (meth := k2m2) (c := k2c2) (by decide +kernel) rfl rfl rfl (by decide +kernel)
set_option maxRecDepth 65536 in
theorem w_c6 : (Jvm.Cond.code ({ cls := "com/example/bivista/bivista/rows/HashSlots", name := "add", desc := "(III)V" } : Jvm.MethodName) prog_159_method_6_code (4 : Nat) (Option.none : Option Jvm.ClassFile.FieldType)).before args0 about1 = true := code_word (m := ⟨2, 1⟩) (meth := k2m1) (c := k2c1) (by decide +kernel) rfl rfl rfl (by decide +kernel)
set_option maxRecDepth 65536 in
theorem w_c7 : (Jvm.Cond.code ({ cls := "com/example/bivista/bivista/rows/HashSlots", name := "grow", desc := "()V" } : Jvm.MethodName) prog_159_method_11_code (9 : Nat) (Option.none : Option Jvm.ClassFile.FieldType)).before args0 about1 = true := code_word (m := ⟨2, 4⟩) (meth := k2m4) (c := k2c4) (by decide +kernel) rfl rfl rfl (by decide +kernel)
def codes1 : List Jvm.Cond := [Jvm.Cond.code x code maxLocals ret, Jvm.Cond.code ({ cls := "com/example/bivista/bivista/rows/HashSlots", name := "<init>", desc := "()V" } : Jvm.MethodName) prog_159_method_1_code (1 : Nat) (Option.none : Option Jvm.ClassFile.FieldType), Jvm.Cond.code ({ cls := "java/lang/Object", name := "<init>", desc := "()V" } : Jvm.MethodName) object_method_1_code (1 : Nat) (Option.none : Option Jvm.ClassFile.FieldType), Jvm.Cond.code ({ cls := "com/example/bivista/bivista/rows/HashSlotsBytesToAddPinLaw", name := "fill", desc := "(Lcom/example/bivista/bivista/rows/HashSlots;III)V" } : Jvm.MethodName) method_3_code (4 : Nat) (Option.none : Option Jvm.ClassFile.FieldType), Jvm.Cond.code ({ cls := "com/example/bivista/bivista/rows/HashSlots", name := "bytes", desc := "()J" } : Jvm.MethodName) prog_159_method_9_code (1 : Nat) (Option.some Jvm.ClassFile.FieldType.long), Jvm.Cond.code ({ cls := "com/example/bivista/bivista/rows/HashSlots", name := "bytesToAdd", desc := "()J" } : Jvm.MethodName) prog_159_method_8_code (1 : Nat) (Option.some Jvm.ClassFile.FieldType.long), Jvm.Cond.code ({ cls := "com/example/bivista/bivista/rows/HashSlots", name := "add", desc := "(III)V" } : Jvm.MethodName) prog_159_method_6_code (4 : Nat) (Option.none : Option Jvm.ClassFile.FieldType), Jvm.Cond.code ({ cls := "com/example/bivista/bivista/rows/HashSlots", name := "grow", desc := "()V" } : Jvm.MethodName) prog_159_method_11_code (9 : Nat) (Option.none : Option Jvm.ClassFile.FieldType)]
set_option maxRecDepth 65536 in
theorem codes_eq : words1.filter isCode = codes1 := rfl
theorem w_codes : ∀ c ∈ words1.filter isCode, c.before args0 about1 = true := by
  rw [codes_eq]
  intro c hc
  simp only [codes1, List.mem_cons, List.not_mem_nil, or_false] at hc
  rcases hc with rfl | rfl | rfl | rfl | rfl | rfl | rfl | rfl
  · exact w_c0
  · exact w_c1
  · exact w_c2
  · exact w_c3
  · exact w_c4
  · exact w_c5
  · exact w_c6
  · exact w_c7
set_option maxRecDepth 65536 in
theorem w_t1 : (words1.take 24).all (fun c => isCode c || c.before args0 about1) = true := by decide +kernel
set_option maxRecDepth 65536 in
theorem w_t2 : (words1.drop 24).all (fun c => isCode c || c.before args0 about1) = true := by decide +kernel
theorem w_tables : (allAtoms (Jvm.Cond.code x code maxLocals ret :: tables_1)).before args0 about1 = true := by
  rw [allAtoms_all]
  show words1.all (fun c => c.before args0 about1) = true
  refine all_split ?_ w_codes
  rw [← List.take_append_drop 24 words1, List.all_append, w_t1, w_t2]
  rfl
set_option maxRecDepth 65536 in
theorem w_case : (Jvm.Cond.and given_1 narrow_1).before args0 about1 = true := by decide +kernel
theorem w_applies : (headSpec (Jvm.Cond.code x code maxLocals ret :: tables_1) room_1).applies x e0.platform about1 = true :=
  (Spec.applies_iff w_frames).mpr ⟨w_running, w_runnable, w_alone, w_named, w_hears, w_ripe, w_room, w_tables⟩
theorem atStart : AtStart classFile x code maxLocals ret World_1 tables_1 room_1 Calls_1 rest_1 Pre_1 launch0 p0 e0 about1 theMethod args0 below0 :=
  ⟨lists_1, trivial, launch0.admits_env _ _ _, launch0.least_env, fairChoices_fair.cas, fairChoices_fair.clock, w_frames, w_args, w_heap, w_applies, trivial, trivial, w_case⟩
end start1
theorem witness_1 : WitnessClaimed_1 := ⟨start1.p0, start1.e0, start1.about1, start1.theMethod, start1.args0, start1.below0, start1.atStart⟩
end Jvm.Pilot.@@N@@
