import JvmDerived
import JvmDerived.Pilot.@@N@@Statement
import JvmDerived.Pilot.@@N@@Code
set_option linter.unusedVariables false
set_option linter.unusedSimpArgs false
namespace Jvm.RoadKit
open Sem ClassFile Op Lib Jvm.Stand Jvm.Free Jvm.LawKit
section New
variable {p : Program} {l : Launch} {e : Env} {R : Room} {s : State} {m : MethodId} {args : Array Value} {below : List Frame} {meth : Method} {c : Code} {T : State} {locs : List Loc} {cells slots : Nat}
theorem retI (X : Stand p l e R s m args below meth c T locs cells slots) (hx : p.tables.exec = Jvm.exec) {pc : Nat} {Ls : Array Slot} {z : Int32} {rest : List Value} (hret : meth.sig.returnType = some .int) (hd : decode c.code pc = .ok (.ireturn, 1)) {fs : List Frame}
    (hl : ∀ (f : JFrame) (acts : List Action), f.method = m → f.locked = none → f.entered = [] → (doReturn e (T.setTop f) acts (some (.int z))).1 = T.setFrames fs) : Steps p.tables e below (T.setTop (mkF m pc Ls (.int z :: rest))) (T.setFrames fs) := by
  have hm' : T.vm.method? m = some meth := X.method'
  have hn : narrow .int (.int z) = .int z := rfl
  show Steps p.tables e below (T.setTop { method := m, pc := pc, locals := Ls, stack := _ :: rest, locked := none }) _
  jvm_step X.here [X.here.top, hx, hd, hm', hret, hn]
  first | (intro acts; rw [hl _ acts rfl rfl rfl]) | rw [hl _ _ rfl rfl rfl]
  exact Steps.refl _
/-- the run from A ends, and P holds at the end -/
def own_Go (p : Program) (e : Env) (below : List Frame) (A : State) (P : State → Outcome → Prop) : Prop := ∃ s₂ o, Steps p.tables e below A s₂ ∧ s₂.status = .running ∧ Ended s₂ below o ∧ P s₂ o
theorem own_by {A B : State} {P : State → Outcome → Prop} (h : ∀ t, Steps p.tables e below B t → Steps p.tables e below A t) (g : own_Go p e below B P) : own_Go p e below A P := by
  obtain ⟨s2, o, h1, h2⟩ := g
  exact ⟨s2, o, h _ h1, h2⟩
theorem own_end (X : Stand p l e R s m args below meth c T locs cells slots) {v : Option Value} (hv : meth.sig.returnType = none → v = none) (hlk : meth.locks = false) {A : State} {Q : Option Value → Heap → List Loc → Prop} {k n : Nat}
    (hs : ∀ fs, (∀ (f : JFrame) (acts : List Action), f.method = m → f.locked = none → f.entered = [] → (doReturn e (T.setTop f) acts v).1 = T.setFrames fs) → Steps p.tables e below A (T.setFrames fs))
    (hq : Q v T.heap locs) (hk : cells ≤ k) (hn : slots ≤ n) : own_Go p e below A (fun t o => ∃ v L, o = .returned v ∧ Q v t.heap L ∧ FrameEnd s o t L k n) := by
  obtain ⟨fs, hr, hrun, hended, hW, hsame⟩ := X.leave (v := v) hv hlk
  exact ⟨_, _, hs fs hr, hrun, hended, _, _, rfl, hq, ⟨_, rfl⟩, hW, hsame.mono hk hn⟩
theorem own_endW {vm₁ : Vm} (X : Stand p l e R (s.setVm vm₁) m args below meth c T locs cells slots) {n0 : Nat} (hS : s.Since vm₁ n0) (hn0 : n0 ≤ T.heap.size) {v : Option Value} (hv : meth.sig.returnType = none → v = none) (hlk : meth.locks = false) {A : State} {Q : Option Value → Heap → List Loc → Prop} {k n : Nat}
    (hs : ∀ fs, (∀ (f : JFrame) (acts : List Action), f.method = m → f.locked = none → f.entered = [] → (doReturn e (T.setTop f) acts v).1 = T.setFrames fs) → Steps p.tables e below A (T.setFrames fs))
    (hq : Q v T.heap locs) (hk : cells ≤ k) (hn : slots ≤ n) : own_Go p e below A (fun t o => ∃ v L, o = .returned v ∧ Q v t.heap L ∧ ReturnedEndW s o t L k n) := by
  obtain ⟨fs, hr, hrun, hended, h1, h2, h3, h4⟩ := X.leaveW hS hn0 (v := v) hv hlk
  exact ⟨_, _, hs fs hr, hrun, hended, _, _, rfl, hq, h1, h2, h3, h4.mono hk hn⟩
theorem own_newPE {Z : State} {a0 : Array Value} {h : Heap} (X : Stand p l e R s m args below meth c T locs cells slots) (hx : p.tables.exec = Jvm.exec) (hZ : Z.Warmed39 s.vm) {aty : ArrayType} (w : (Cond.arrayClass (newarray.typeOf aty)).before a0 Z = true) (eT : T.heap = h) {g : JFrame} (hg : g.method = m) (hd : decode c.code g.pc = .ok (.newarray aty, 2)) {n : Int32} {rest : List Value} (hs : g.stack = .int n :: rest)
    (hn : ¬ n < 0) {cap : Nat} (hcap : n.toNatClampNeg ≤ cap) (hb : cap * 8 ≤ 536870912) (hc : cells + 1 ≤ R.cells) (hl : slots + cap ≤ R.slots) {ad : String} (had : "[" ++ (newarray.typeOf aty).toString = ad) :
    ∃ T' h' cA, Stand p l e R s m args below meth c T' locs (cells + 1) (slots + cap) ∧ T'.heap = h' ∧ Ext h h' ∧ Arr Z h' h.size (newA cA (newarray.typeOf aty) n) (newarray.typeOf aty) ∧ Exa Z h' h.size ad ∧
      ∀ target, Steps p.tables e below (T'.setTop { g with pc := g.pc + 2, stack := .ref h.size :: rest }) target → Steps p.tables e below (T.setTop g) target := by
  have hcb : componentBytes (newarray.typeOf aty) ≤ 8 := by cases aty <;> decide
  obtain ⟨cA, kA, comp, f1, f2, f3, Y, st⟩ := X.newarrayPrim hx (mvA hZ w) hg hd hs hn (Nat.le_trans (Nat.mul_le_mul hcap hcb) hb) hc (Nat.le_trans (Nat.add_le_add_left hcap _) hl)
  subst eT had
  have f1' : Z.vm.findClass ("[" ++ (newarray.typeOf aty).toString) = some cA := by rw [← hZ.alike.findClass]; exact f1
  obtain ⟨kZ, z1, -⟩ := Vm.findClass_spec f1'
  obtain ⟨k', z2, z3⟩ := hZ.alike.2.2 _ _ z1
  have ek : kA = k' := Option.some.inj (f2.symm.trans z2)
  have kd : kZ.kind = .array comp (newarray.typeOf aty) := by rw [← f3, ek, z3]
  have hN : (T.heap.push (newA cA (newarray.typeOf aty) n))[T.heap.size]? = some (newA cA (newarray.typeOf aty) n) := by simp
  refine ⟨_, _, cA, Y.more (Nat.le_refl _) (Nat.add_le_add_left hcap _), rfl, ext_of fun a q => ?_, ⟨hN, ⟨fun _ z => (by cases z), kZ, z1, comp, kd⟩, fun z => (by cases z)⟩, ⟨_, kZ, hN, f1', z1, rfl, fun ho => by rw [kd] at ho; cases ho⟩, st⟩
  exact (Array.getElem?_push_lt q).trans (Array.getElem?_eq_getElem q).symm
end New
section Arf
variable {Z : State} {h h' : Heap} {a b : Addr} {ty : FieldType} {n z : Int32} {f g : Nat → Value} {sl : Nat} {v : Value} {ws : List Addr} {k : ClassId}
/-- an array of n places, of which place i holds f i -/
def own_Arf (Z : State) (h : Heap) (a : Addr) (ty : FieldType) (n : Int32) (f : Nat → Value) : Prop := ∃ c : Cell, Arr Z h a c ty ∧ c.slots.size = n.toNatClampNeg ∧ ¬ n < 0 ∧ ∀ i, i < c.slots.size → c.slots[i]? = some (f i)
theorem own_Arf.lt (F : own_Arf Z h a ty n f) : a < h.size := by obtain ⟨c, A, -⟩ := F; exact A.lt
theorem own_Arf.ext (F : own_Arf Z h a ty n f) (E : Ext h h') : own_Arf Z h' a ty n f := by obtain ⟨c, A, r⟩ := F; exact ⟨c, A.ext E, r⟩
theorem own_Arf.other (F : own_Arf Z h b ty n f) (W : Wr h h' a sl v) (q : b ≠ a) : own_Arf Z h' b ty n f := by obtain ⟨c, A, r⟩ := F; exact ⟨c, A.other W q, r⟩
theorem own_Arf.keep (F : own_Arf Z h a ty n f) (K : Keep h h' ws) (q : a ∉ ws) : own_Arf Z h' a ty n f := by obtain ⟨c, A, r⟩ := F; exact ⟨c, ⟨K.2.1 a c A.1 q, A.2⟩, r⟩
theorem own_Arf.new (A : Arr Z h a (newA k ty z) ty) (q : ¬ z < 0) : own_Arf Z h a ty z (fun _ => defaultValue ty) := ⟨_, A, sz_new _ _ _, q, fun i hi => by
  rw [sz_new] at hi
  simp [newA, hi]⟩
theorem own_Arf.set (F : own_Arf Z h a ty n f) (W : Wr h h' a sl v) : own_Arf Z h' a ty n (fun i => if i = sl then v else f i) := by
  obtain ⟨c, A, S, N, H⟩ := F
  have hsl : sl < c.slots.size := by
    obtain ⟨c2, e1, -, e3, -⟩ := W
    cases A.1.symm.trans e1
    exact e3
  refine ⟨_, A.same W, by rw [sz_set]; exact S, N, fun i hi => ?_⟩
  rw [sz_set] at hi
  by_cases e : i = sl
  · subst e
    simp [Cell.setSlot, hi]
  · simp only [Cell.setSlot, if_neg e]
    rw [Array.getElem?_setIfInBounds_ne (Ne.symm e)]
    exact H i hi
theorem own_Arf.congr (F : own_Arf Z h a ty n f) (q : ∀ i, i < n.toNatClampNeg → f i = g i) : own_Arf Z h a ty n g := by
  obtain ⟨c, A, S, N, H⟩ := F
  exact ⟨c, A, S, N, fun i hi => by rw [← q i (by rw [← S]; exact hi)]; exact H i hi⟩
theorem own_Arf.at (F : own_Arf Z h a ty n f) {j : Int32} (q : ¬ j < 0 ∧ j < n) : ∃ c : Cell, Arr Z h a c ty ∧ ¬ (j < 0 ∨ c.slots.size ≤ j.toNatClampNeg) ∧ c.slots[j.toNatClampNeg]? = some (f j.toNatClampNeg) := by
  obtain ⟨c, A, S, N, H⟩ := F
  have hin := inb_of S q
  exact ⟨c, A, hin, H _ (Nat.lt_of_not_le fun y => hin (Or.inr y))⟩
theorem own_Arf.nn (F : own_Arf Z h a ty n f) : ¬ n < 0 := by obtain ⟨c, A, S, N, H⟩ := F; exact N
/-- an array of objects of the class C -/
def own_Ovr (Z : State) (h : Heap) (a : Addr) (C : String) : Prop := ∃ (c : Cell) (ty : FieldType), Arr Z h a c ty ∧ Ovr Z c.cls C
theorem own_Ovr.wr {C : String} (W : Wr h h' b sl v) (F : own_Ovr Z h a C) : own_Ovr Z h' a C := by
  obtain ⟨c, ty, A, O⟩ := F
  by_cases e : a = b
  · subst e; exact ⟨_, ty, A.same W, O⟩
  · exact ⟨c, ty, A.other W e, O⟩
theorem own_Ovr.ext {C : String} (F : own_Ovr Z h a C) (E : Ext h h') : own_Ovr Z h' a C := by obtain ⟨c, ty, A, O⟩ := F; exact ⟨c, ty, A.ext E, O⟩
theorem own_Ovr.sto {C : String} {y : Addr} (F : own_Ovr Z h a C) (I : Exa Z h y C) : Sto Z h a (.ref y) := by obtain ⟨c, ty, A, O⟩ := F; exact Sto.of A O (Ins.self I)
theorem own_selp {s : State} {a0 args : Array Value} {y : MethodName} {n : Nat} (hZ : Z.Warmed39 s.vm) (wi : (Cond.instantiable y.cls n).before a0 Z = true) (wn : (Cond.instanceMethod y).before a0 Z = true) (wp : (Cond.privateMethod y).before a0 Z = true) (hy : y.cls ≠ "java/lang/invoke/MethodHandle" ∧ y.cls ≠ "java/lang/invoke/VarHandle") : (Cond.selects y.cls y y).before args s = true := by
  obtain ⟨c2, k2, i1, i2, -, i4, -⟩ := Cond.instantiable_spec (mvT hZ wi : (Cond.instantiable y.cls n).before args s = true)
  simp only [Bool.or_eq_false_iff] at i4
  exact selects_self_of_private i1 i2 i4.1 (Cond.privateMethod_at (mvP hZ wp (args := args))) (mvT hZ wn) hy
theorem own_sta_keep {C n d : String} {w : Value} (F : Sta Z h C n d w) (K : Keep h h' []) : Sta Z h' C n d w := by
  obtain ⟨cf, i, k, f, st, cell, h1, h2, h3, h4, h5, h6⟩ := F
  exact ⟨cf, i, k, f, st, cell, h1, h2, h3, h4, K.2.1 _ _ h5 nin0, h6⟩
theorem own_ofNat_int {m : Nat} (h : m < 2 ^ 31) : (Int32.ofNat m).toInt = m := Int32.toInt_ofNat_of_lt h
theorem own_tn {m : Nat} (h : m < 2 ^ 31) : (Int32.ofNat m).toNatClampNeg = m := by
  show (Int32.ofNat m).toInt.toNat = m
  rw [own_ofNat_int h]; omega
theorem own_nn {m : Nat} (h : m < 2 ^ 31) : ¬ Int32.ofNat m < 0 := by
  rw [Int32.lt_iff_toInt_lt, own_ofNat_int h]; show ¬ (m : Int) < 0; omega
theorem own_ltN {i m : Nat} (h : i < m) (hm : m < 2 ^ 31) : Int32.ofNat i < Int32.ofNat m := by
  rw [Int32.lt_iff_toInt_lt, own_ofNat_int hm, own_ofNat_int (by omega)]; omega
theorem own_in {i m : Nat} (h : i < m) (hm : m < 2 ^ 31) : ¬ Int32.ofNat i < 0 ∧ Int32.ofNat i < Int32.ofNat m := ⟨own_nn (by omega), own_ltN h hm⟩
theorem own_injN {i m : Nat} (hi : i < 2 ^ 31) (hm : m < 2 ^ 31) (e : Int32.ofNat i = Int32.ofNat m) : i = m := by
  have := congrArg Int32.toInt e
  rw [own_ofNat_int hi, own_ofNat_int hm] at this; omega
theorem own_Arf.arv (F : own_Arf Z h a ty n f) (hf : ∀ i, i < n.toNatClampNeg → fits ty (f i) = true) (d : Value) : ∃ k, Arv Z h a k ty n ((List.range n.toNatClampNeg).map f) d := by
  obtain ⟨c, A, S, N, H⟩ := F
  have hg : ∀ i, i < n.toNatClampNeg → ((List.range n.toNatClampNeg).map f).getD i d = f i := fun i hi => by
    simp [List.getD, hi]
  refine ⟨c.cls, c, A, rfl, S, N, fun i hi => ?_, fun i hi => ?_⟩
  · rw [hg i (by rw [← S]; exact hi)]; exact H i hi
  · rw [hg i (by rw [← S]; exact hi)]; exact hf i (by rw [← S]; exact hi)
theorem own_Arf.of {vs : List Value} {d : Value} (F : Arv Z h a k ty n vs d) : own_Arf Z h a ty n (fun i => vs.getD i d) := by
  obtain ⟨c, A, -, S, N, H, -⟩ := F
  exact ⟨c, A, S, N, H⟩
end Arf
end Jvm.RoadKit
namespace Jvm.Pilot.@@N@@
open Jvm Jvm.ClassFile Sem Op Lib Jvm.Free Jvm.Stand Jvm.LawKit Jvm.RoadKit Bundle Jvm.Pilot.@@N@@.Jvm.D
theorem own_len (j : Int64) : 0 ≤ ((j &&& (1023 : Int64)).toInt32).toInt ∧ ((j &&& (1023 : Int64)).toInt32).toInt ≤ 1023 := by
  have h1 := c_maskL j 1023 10 (by decide) (by decide)
  have h2 := c_l2i (j &&& 1023)
  have h3 := rng32 ((j &&& (1023 : Int64)).toInt32)
  omega
theorem own_hn {n : Int32} (h : 0 ≤ n.toInt ∧ n.toInt ≤ 1023) : ¬ n < 0 ∧ n.toNatClampNeg ≤ 1023 ∧ ¬ (0 : Int32) < lcmpW n.toInt64 (2147483639 : Int64) := by
  refine ⟨?_, ?_, ?_⟩
  · rw [Int32.lt_iff_toInt_lt]; show ¬ n.toInt < 0; omega
  · show n.toInt.toNat ≤ 1023; omega
  · rw [lw_gt, Int64.lt_iff_toInt_lt, Int32.toInt_toInt64]; show ¬ (2147483639 : Int) < n.toInt; omega
theorem own_pos {n : Int32} (h : 0 ≤ n.toInt) (h0 : ¬ n = 0) : 0 < n.toInt := by
  rcases Int.lt_or_eq_of_le h with q | q
  · exact q
  · exact absurd (Int32.toInt_inj.mp (show n.toInt = (0 : Int32).toInt from q.symm)) h0
theorem own_rem {i n : Int32} (hn : 0 < n.toInt) : 0 ≤ ((i &&& (2147483647 : Int32)) % n).toInt ∧ ((i &&& (2147483647 : Int32)) % n).toInt < n.toInt := by
  have h := c_mask i 2147483647 31 (by decide) (by decide)
  have h2 := (c_iremV (i &&& 2147483647) n).1 (by omega) hn
  omega
theorem own_inb {j n : Int32} (h1 : 0 ≤ j.toInt) (h2 : j.toInt < n.toInt) : ¬ j < 0 ∧ j < n := by
  refine ⟨?_, ?_⟩
  · rw [Int32.lt_iff_toInt_lt]; show ¬ j.toInt < 0; omega
  · rw [Int32.lt_iff_toInt_lt]; exact h2
theorem own_last {n : Int32} (h : 0 < n.toInt) : 0 ≤ (n - 1).toInt ∧ (n - 1).toInt < n.toInt := by
  have h1 := c_isub n 1
  have h2 := rng32 (n - 1)
  have h3 := rng32 n
  have h4 : (1 : Int32).toInt = 1 := rfl
  omega
theorem own_odd (v : Int32) : ¬ nar .byte ((v ||| (1 : Int32)).toInt8.toInt32) = 0 := by
  intro e
  have h1 := (c_i2b (v ||| 1)).1
  have h2 := (c_i2b ((v ||| (1 : Int32)).toInt8.toInt32)).1
  have e2 : ((v ||| (1 : Int32)).toInt8.toInt32).toInt8.toInt32.toInt = 0 := congrArg Int32.toInt e
  have h3 := par (v ||| 1)
  have h4 : (v ||| 1).toBitVec.toNat % 2 = 1 := by
    rw [Int32.toBitVec_or, BitVec.toNat_or]
    have := Nat.or_mod_two_pow (a := v.toBitVec.toNat) (b := 1) (n := 1)
    have h5 : v.toBitVec.toNat % 2 = 0 ∨ v.toBitVec.toNat % 2 = 1 := by omega
    show (v.toBitVec.toNat ||| 1) % 2 = 1
    rcases h5 with h | h <;> simp_all
  omega
theorem d1_0 : decode prog_55_method_7_code 0 = .ok (.lload_n 0, 1) := by decide +kernel
theorem d1_1 : decode prog_55_method_7_code 1 = .ok (.ldc2_w 143, 3) := by decide +kernel
theorem d1_4 : decode prog_55_method_7_code 4 = .ok (.lcmp, 1) := by decide +kernel
theorem d1_5 : decode prog_55_method_7_code 5 = .ok (.ifCond .le 17, 3) := by decide +kernel
theorem d1_22 : decode prog_55_method_7_code 22 = .ok (.lload_n 0, 1) := by decide +kernel
theorem d1_23 : decode prog_55_method_7_code 23 = .ok (.l2i, 1) := by decide +kernel
theorem d1_24 : decode prog_55_method_7_code 24 = .ok (.newarray .byte, 2) := by decide +kernel
theorem d1_26 : decode prog_55_method_7_code 26 = .ok (.areturn, 1) := by decide +kernel
theorem own_pn0 : plainName "com/example/pipehat/pipehat/Text" = true := by first | (simp [plainName, overriddenIn]; done) | decide +kernel
theorem ef_rm1 (m : MethodId) (x0 : Int64) : entryFrame m #[(.long x0)] 2 = mkF m 0 #[.val (.long x0), .second] [] := by first | (simp [entryFrame, mkF, argsToLocals, Value.category]; done) | rfl
def Q_rm1 (Z : State) (i0 : Int32) (h0 : Heap) (n0 : Nat) (v : Option Value) (h : Heap) (L : List Loc) : Prop := v = some (.ref h0.size) ∧ Fr n0 L ∧ Ext h0 h ∧ own_Arf Z h h0.size .byte i0 (fun _ => .int 0)
set_option maxRecDepth 65536 in
set_option maxHeartbeats 40000000 in
theorem rm1 (l : Launch) (Z : State) (a0 : Array Value) (hw : ∀ d ∈ tables_1, d.before a0 Z = true) (ws : List Jvm.Cond) (i0 : Int32) (h0 : Heap) (n0 : Nat) (Z0 : n0 ≤ h0.size) (hnn : ¬ i0 < 0) (hcap : i0.toNatClampNeg ≤ 1023) (hle : ¬ (0 : Int32) < lcmpW i0.toInt64 (2147483639 : Int64)) :
    MetFree l (⟨"com/example/pipehat/pipehat/Text", "allocate", "(J)[B"⟩ : MethodName) (head1 (Jvm.Cond.code (⟨"com/example/pipehat/pipehat/Text", "allocate", "(J)[B"⟩ : MethodName) prog_55_method_7_code 2 (some (.array .byte)) :: ws) ({ frames := 0, cells := 1, slots := 1023, locals := 0 } : Room)) (fun a U => a = #[(.long i0.toInt64)] ∧ Z.Warmed39 U.vm ∧ U.heap = h0) (fun _ _ _ _ _ => True) (fun _ U o U' => ∃ v L, o = .returned v ∧ Q_rm1 Z i0 h0 n0 v U'.heap L ∧ FrameEnd U o U' L ({ frames := 0, cells := 1, slots := 1023, locals := 0 } : Room).cells ({ frames := 0, cells := 1, slots := 1023, locals := 0 } : Room).slots) := by
  refine MetFree.of_bodySF (plainFor_of_name own_pn0) hisR ?_
  intro p e s m args below meth c s₁ Bd hml0 hP hK
  obtain ⟨rfl, hZ, hh⟩ := hP
  have hx := Bd.exec
  have hby := Bd.bytes
  have hml : c.maxLocals = 2 := hml0
  have hown : s.vm.findClass "com/example/pipehat/pipehat/Text" = some m.cls := findClass_of_methodNamed Bd.named
  have hnm := (name_of_methodNamed Bd.named Bd.method).1
  have X0 : Stand p l e ({ frames := 0, cells := 1, slots := 1023, locals := 0 } : Room) s m #[(.long i0.toInt64)] below meth c s₁ [] 0 0 := Stand.of_body Bd
  have e0 : s₁.heap = h0 := by rw [← hh, Bd.state]; rfl
  show own_Go p e below (s₁.setTop (entryFrame m #[(.long i0.toInt64)] 2)) (fun t o => ∃ v L, o = .returned v ∧ Q_rm1 Z i0 h0 n0 v t.heap L ∧ FrameEnd s o t L ({ frames := 0, cells := 1, slots := 1023, locals := 0 } : Room).cells ({ frames := 0, cells := 1, slots := 1023, locals := 0 } : Room).slots)
  refine own_by (B := s₁.setTop (mkF m 0 #[.val (.long i0.toInt64), .second] [])) (fun t k => castTop (ef_rm1 m i0.toInt64) k) ?_
  have Nf := Fr.nil n0
  have Zs := Z0
  refine own_by (B := s₁.setTop (mkF m 1 #[.val (.long i0.toInt64), .second] [(.long i0.toInt64)])) (fun t k => XS.lloadN X0.here hx rfl (hb hby d1_0) rfl k) ?_
  refine own_by (B := s₁.setTop (mkF m 4 #[.val (.long i0.toInt64), .second] [(.long (2147483639 : Int64)), (.long i0.toInt64)])) (fun t k => X0.ldc2Long hx hown (mvT hZ (hw _ (List.mem_of_getElem? (i := 5) rfl))) (g := (mkF m 1 #[.val (.long i0.toInt64), .second] [(.long i0.toInt64)])) rfl (hb hby d1_1) _ k) ?_
  refine own_by (B := s₁.setTop (mkF m 5 #[.val (.long i0.toInt64), .second] [(.int (lcmpW i0.toInt64 (2147483639 : Int64)))])) (fun t k => XS.lcmp X0.here hx rfl (hb hby d1_4) rfl k) ?_
  refine own_by (B := s₁.setTop (mkF m 22 #[.val (.long i0.toInt64), .second] [])) (fun t k => XS.ifYes X0.here hx rfl (pc0 := 5) (pc' := 22) rfl (hb hby d1_5) rfl ((if0 _ _).trans (flt hle).2.2.2) (by decide) (by decide) k) ?_
  refine own_by (B := s₁.setTop (mkF m 23 #[.val (.long i0.toInt64), .second] [(.long i0.toInt64)])) (fun t k => XS.lloadN X0.here hx rfl (hb hby d1_22) rfl k) ?_
  refine own_by (B := s₁.setTop (mkF m 24 #[.val (.long i0.toInt64), .second] [(.int (i0.toInt64.toInt32))])) (fun t k => XS.l2i X0.here hx rfl (hb hby d1_23) rfl k) ?_
  rw [show (i0.toInt64.toInt32) = i0 from Int32.toInt32_toInt64 i0]
  obtain ⟨T1, h1, k1, X1, e1, E1, A1, st1⟩ := newP X0 hx hZ (hw _ (List.mem_of_getElem? (i := 6) rfl)) e0 (g := (mkF m 24 #[.val (.long i0.toInt64), .second] [(.int i0)])) rfl (hb hby d1_24) rfl hnn (cap := 1023) hcap (by decide) (by decide) (by decide)
  obtain ⟨b1, gq1⟩ : ∃ z, z = h0.size := ⟨_, rfl⟩
  rw [← gq1] at A1 st1
  have g_b1 : n0 ≤ b1 := Nat.le_trans Zs (Nat.le_of_eq gq1.symm)
  have Zs := Nat.le_trans Zs E1.1
  have V_b1 := own_Arf.new A1 hnn
  refine own_by (B := T1.setTop (mkF m 26 #[.val (.long i0.toInt64), .second] [(.ref b1)])) st1 ?_
  exact own_end X1 (v := some (.ref b1)) (fun h => by rw [Bd.returns] at h; cases h) (BodyLoose.notSynchronized Bd) (Q := (Q_rm1 Z i0 h0 n0)) (fun fs hr => retOut X1 hx (t := (.array .byte)) Bd.returns rfl (Or.inr (Or.inr (Or.inr (Or.inr ⟨rfl, rfl, rfl⟩)))) (hb hby d1_26) hr) (show (Q_rm1 Z i0 h0 n0) _ T1.heap _ from (by rw [e1]; exact ⟨by rw [gq1], Nf, E1, by rw [← gq1]; exact V_b1⟩)) (by decide) (by decide)
theorem own_pd0 : parseMethodDescriptor "(J)[B" = some ⟨[.long], some (.array .byte)⟩ := by decide +kernel
theorem own_pn1 : plainName "com/example/pipehat/pipehat/TextAllocatePinLaw" = true := by first | (simp [plainName, overriddenIn]; done) | decide +kernel
theorem ef_rm0 (m : MethodId) (x0 : Int64) (x1 : Int32) (x2 : Int32) : entryFrame m #[(.long x0), (.int x1), (.int x2)] maxLocals = mkF m 0 #[.val (.long x0), .second, .val (.int x1), .val (.int x2), .unset, .unset, .unset, .unset] [] := by first | (simp [entryFrame, mkF, argsToLocals, Value.category, maxLocals]; done) | rfl
def Q_rm0 (Z : State) (j0 : Int64) (i1 : Int32) (i2 : Int32) (h0 : Heap) (n0 : Nat) (v : Option Value) (h : Heap) (L : List Loc) : Prop := v = some (.int 1) ∧ Fr n0 L
set_option maxRecDepth 65536 in
set_option maxHeartbeats 40000000 in
theorem rm0 (l : Launch) (Z : State) (a0 : Array Value) (hw : ∀ d ∈ tables_1, d.before a0 Z = true) (ws : List Jvm.Cond) (j0 : Int64) (i1 : Int32) (i2 : Int32) (h0 : Heap) (n0 : Nat) (Z0 : n0 ≤ h0.size)  :
    MetFree l x (head1 (Jvm.Cond.code x code maxLocals ret :: ws) room_1) (fun a U => a = #[(.long j0), (.int i1), (.int i2)] ∧ Z.Warmed39 U.vm ∧ U.heap = h0) (fun _ _ _ _ _ => True) (fun _ U o U' => ∃ v L, o = .returned v ∧ Q_rm0 Z j0 i1 i2 h0 n0 v U'.heap L ∧ FrameEnd U o U' L room_1.cells room_1.slots) := by
  refine MetFree.of_bodySF (plainFor_of_name own_pn1) hisR ?_
  intro p e s m args below meth c s₁ Bd hml0 hP hK
  obtain ⟨rfl, hZ, hh⟩ := hP
  have hx := Bd.exec
  have hby := Bd.bytes
  have hml : c.maxLocals = 8 := hml0
  have hown : s.vm.findClass "com/example/pipehat/pipehat/TextAllocatePinLaw" = some m.cls := findClass_of_methodNamed Bd.named
  have hnm := (name_of_methodNamed Bd.named Bd.method).1
  have X0 : Stand p l e room_1 s m #[(.long j0), (.int i1), (.int i2)] below meth c s₁ [] 0 0 := Stand.of_body Bd
  have e0 : s₁.heap = h0 := by rw [← hh, Bd.state]; rfl
  show own_Go p e below (s₁.setTop (entryFrame m #[(.long j0), (.int i1), (.int i2)] maxLocals)) (fun t o => ∃ v L, o = .returned v ∧ Q_rm0 Z j0 i1 i2 h0 n0 v t.heap L ∧ FrameEnd s o t L room_1.cells room_1.slots)
  refine own_by (B := s₁.setTop (mkF m 0 #[.val (.long j0), .second, .val (.int i1), .val (.int i2), .unset, .unset, .unset, .unset] [])) (fun t k => castTop (ef_rm0 m j0 i1 i2) k) ?_
  have Nf := Fr.nil n0
  have Zs := Z0
  refine own_by (B := s₁.setTop (mkF m 1 #[.val (.long j0), .second, .val (.int i1), .val (.int i2), .unset, .unset, .unset, .unset] [(.long j0)])) (fun t k => XS.lloadN X0.here hx rfl (hb hby at_0) rfl k) ?_
  refine own_by (B := s₁.setTop (mkF m 4 #[.val (.long j0), .second, .val (.int i1), .val (.int i2), .unset, .unset, .unset, .unset] [(.long (1023 : Int64)), (.long j0)])) (fun t k => X0.ldc2Long hx hown (mvT hZ (hw _ (List.mem_of_getElem? (i := 0) rfl))) (g := (mkF m 1 #[.val (.long j0), .second, .val (.int i1), .val (.int i2), .unset, .unset, .unset, .unset] [(.long j0)])) rfl (hb hby at_1) _ k) ?_
  refine own_by (B := s₁.setTop (mkF m 5 #[.val (.long j0), .second, .val (.int i1), .val (.int i2), .unset, .unset, .unset, .unset] [(.long (j0 &&& (1023 : Int64)))])) (fun t k => XS.land X0.here hx rfl (hb hby at_4) rfl k) ?_
  refine own_by (B := s₁.setTop (mkF m 6 #[.val (.long j0), .second, .val (.int i1), .val (.int i2), .unset, .unset, .unset, .unset] [(.int ((j0 &&& (1023 : Int64)).toInt32))])) (fun t k => XS.l2i X0.here hx rfl (hb hby at_5) rfl k) ?_
  refine own_by (B := s₁.setTop (mkF m 8 #[.val (.long j0), .second, .val (.int i1), .val (.int i2), .val (.int ((j0 &&& (1023 : Int64)).toInt32)), .unset, .unset, .unset] [])) (fun t k => XS.istore X0.here hx rfl (hb hby at_6) rfl (l' := #[.val (.long j0), .second, .val (.int i1), .val (.int i2), .val (.int ((j0 &&& (1023 : Int64)).toInt32)), .unset, .unset, .unset]) rfl k) ?_
  generalize h_ln : ((j0 &&& (1023 : Int64)).toInt32) = ln
  have hl : 0 ≤ ln.toInt ∧ ln.toInt ≤ 1023 := by rw [← h_ln]; exact own_len j0
  have hn := own_hn hl
  refine own_by (B := s₁.setTop (mkF m 10 #[.val (.long j0), .second, .val (.int i1), .val (.int i2), .val (.int ln), .unset, .unset, .unset] [(.int ln)])) (fun t k => XS.iload X0.here hx rfl (hb hby at_8) rfl k) ?_
  refine own_by (B := s₁.setTop (mkF m 11 #[.val (.long j0), .second, .val (.int i1), .val (.int i2), .val (.int ln), .unset, .unset, .unset] [(.long (ln.toInt64))])) (fun t k => XS.i2l X0.here hx rfl (hb hby at_10) rfl k) ?_
  obtain ⟨_, _, ⟨T1, L1, k1, n1⟩, -, X1, ⟨Lc1, hQ1, l1, y1, z1⟩, st1⟩ := Jvm.LawKit.callS X0 hx (y := (⟨"com/example/pipehat/pipehat/Text", "allocate", "(J)[B"⟩ : MethodName)) hown (mvT hZ (hw _ (List.mem_of_getElem? (i := 1) rfl))) (mvT hZ (hw _ (List.mem_of_getElem? (i := 2) rfl))) (mvT hZ (hw _ (List.mem_of_getElem? (i := 3) rfl))) (mvT hZ (hw _ (List.mem_of_getElem? (i := 4) rfl))) (by decide) (backOf (W := 0) (rm1 l Z a0 hw [] ln h0 n0 Zs hn.1 hn.2.1 hn.2.2) hZ (hw _ (List.mem_of_getElem? (i := 4) rfl)) (hw _ (List.mem_of_getElem? (i := 3) rfl)) (by decide) (by decide)) (g := (mkF m 11 #[.val (.long j0), .second, .val (.int i1), .val (.int i2), .val (.int ln), .unset, .unset, .unset] [(.long (ln.toInt64))])) rfl (by rw [hml]; rfl) (argsL := [(.long (ln.toInt64))]) (rest := []) (lenOf own_pd0 rfl) rfl (by show 2 * 0 + _ ≤ _; exact Nat.le_of_eq rfl) (hb hby at_11) (fun _ _ => ⟨rfl, e0, (by decide : 0 + 1 ≤ _), (by decide : 0 + 1023 ≤ _)⟩)
  dsimp only [Pt.U, Pt.locs, Pt.cells, Pt.slots] at X1 l1 y1 z1 st1 hQ1
  subst l1 y1 z1
  obtain ⟨rfl, Nq1, Ec1, Vc1⟩ := hQ1
  have Nf := Fr.app Nf Nq1
  obtain ⟨b1, gq1⟩ : ∃ z, z = h0.size := ⟨_, rfl⟩
  rw [← gq1] at Vc1 st1
  have g_b1 : n0 ≤ b1 := Nat.le_trans Zs (Nat.le_of_eq gq1.symm)
  have Zs := Nat.le_trans Zs Ec1.1
  have V_b1 := Vc1
  refine own_by (B := T1.setTop (mkF m 14 #[.val (.long j0), .second, .val (.int i1), .val (.int i2), .val (.int ln), .unset, .unset, .unset] [(.ref b1)])) st1 ?_
  refine own_by (B := T1.setTop (mkF m 16 #[.val (.long j0), .second, .val (.int i1), .val (.int i2), .val (.int ln), .val (.ref b1), .unset, .unset] [])) (fun t k => XS.astore X1.here hx rfl (hb hby at_14) rfl rfl (l' := #[.val (.long j0), .second, .val (.int i1), .val (.int i2), .val (.int ln), .val (.ref b1), .unset, .unset]) rfl k) ?_
  refine own_by (B := T1.setTop (mkF m 18 #[.val (.long j0), .second, .val (.int i1), .val (.int i2), .val (.int ln), .val (.ref b1), .unset, .unset] [(.int ln)])) (fun t k => XS.iload X1.here hx rfl (hb hby at_16) rfl k) ?_
  refine own_by (B := T1.setTop (mkF m 19 #[.val (.long j0), .second, .val (.int i1), .val (.int i2), .val (.int ln), .val (.ref b1), .unset, .unset] [(.long (ln.toInt64))])) (fun t k => XS.i2l X1.here hx rfl (hb hby at_18) rfl k) ?_
  obtain ⟨_, _, ⟨T2, L2, k2, n2⟩, -, X2, ⟨Lc2, hQ2, l2, y2, z2⟩, st2⟩ := Jvm.LawKit.callS X1 hx (y := (⟨"com/example/pipehat/pipehat/Text", "allocate", "(J)[B"⟩ : MethodName)) hown (mvT hZ (hw _ (List.mem_of_getElem? (i := 1) rfl))) (mvT hZ (hw _ (List.mem_of_getElem? (i := 2) rfl))) (mvT hZ (hw _ (List.mem_of_getElem? (i := 3) rfl))) (mvT hZ (hw _ (List.mem_of_getElem? (i := 4) rfl))) (by decide) (backOf (W := 0) (rm1 l Z a0 hw [] ln T1.heap n0 Zs hn.1 hn.2.1 hn.2.2) hZ (hw _ (List.mem_of_getElem? (i := 4) rfl)) (hw _ (List.mem_of_getElem? (i := 3) rfl)) (by decide) (by decide)) (g := (mkF m 19 #[.val (.long j0), .second, .val (.int i1), .val (.int i2), .val (.int ln), .val (.ref b1), .unset, .unset] [(.long (ln.toInt64))])) rfl (by rw [hml]; rfl) (argsL := [(.long (ln.toInt64))]) (rest := []) (lenOf own_pd0 rfl) rfl (by show 2 * 0 + _ ≤ _; exact Nat.le_of_eq rfl) (hb hby at_19) (fun _ _ => ⟨rfl, rfl, (by decide : 1 + 1 ≤ _), (by decide : 1023 + 1023 ≤ _)⟩)
  dsimp only [Pt.U, Pt.locs, Pt.cells, Pt.slots] at X2 l2 y2 z2 st2 hQ2
  subst l2 y2 z2
  obtain ⟨rfl, Nq2, Ec2, Vc2⟩ := hQ2
  have Nf := Fr.app Nf Nq2
  obtain ⟨b2, gq2⟩ : ∃ z, z = T1.heap.size := ⟨_, rfl⟩
  rw [← gq2] at Vc2 st2
  have ne_b1_b2 : b1 ≠ b2 := Nat.ne_of_lt (Nat.lt_of_lt_of_le V_b1.lt (Nat.le_of_eq gq2.symm))
  have g_b2 : n0 ≤ b2 := Nat.le_trans Zs (Nat.le_of_eq gq2.symm)
  have V_b1 := V_b1.ext Ec2
  have Zs := Nat.le_trans Zs Ec2.1
  have V_b2 := Vc2
  refine own_by (B := T2.setTop (mkF m 22 #[.val (.long j0), .second, .val (.int i1), .val (.int i2), .val (.int ln), .val (.ref b1), .unset, .unset] [(.ref b2)])) st2 ?_
  refine own_by (B := T2.setTop (mkF m 24 #[.val (.long j0), .second, .val (.int i1), .val (.int i2), .val (.int ln), .val (.ref b1), .val (.ref b2), .unset] [])) (fun t k => XS.astore X2.here hx rfl (hb hby at_22) rfl rfl (l' := #[.val (.long j0), .second, .val (.int i1), .val (.int i2), .val (.int ln), .val (.ref b1), .val (.ref b2), .unset]) rfl k) ?_
  refine own_by (B := T2.setTop (mkF m 26 #[.val (.long j0), .second, .val (.int i1), .val (.int i2), .val (.int ln), .val (.ref b1), .val (.ref b2), .unset] [(.ref b1)])) (fun t k => XS.aload X2.here hx rfl (hb hby at_24) rfl rfl k) ?_
  refine own_by (B := T2.setTop (mkF m 29 #[.val (.long j0), .second, .val (.int i1), .val (.int i2), .val (.int ln), .val (.ref b1), .val (.ref b2), .unset] [])) (fun t k => XS.ifnullNo X2.here hx rfl (hb hby at_26) rfl k) ?_
  refine own_by (B := T2.setTop (mkF m 31 #[.val (.long j0), .second, .val (.int i1), .val (.int i2), .val (.int ln), .val (.ref b1), .val (.ref b2), .unset] [(.ref b2)])) (fun t k => XS.aload X2.here hx rfl (hb hby at_29) rfl rfl k) ?_
  refine own_by (B := T2.setTop (mkF m 36 #[.val (.long j0), .second, .val (.int i1), .val (.int i2), .val (.int ln), .val (.ref b1), .val (.ref b2), .unset] [])) (fun t k => XS.ifnonnullYes X2.here hx rfl (pc0 := 31) (pc' := 36) rfl (hb hby at_31) rfl (by decide) (by decide) k) ?_
  refine own_by (B := T2.setTop (mkF m 38 #[.val (.long j0), .second, .val (.int i1), .val (.int i2), .val (.int ln), .val (.ref b1), .val (.ref b2), .unset] [(.ref b1)])) (fun t k => XS.aload X2.here hx rfl (hb hby at_36) rfl rfl k) ?_
  obtain ⟨cl3, Ar3, Sz3, Ng3, -⟩ := id V_b1
  refine own_by (B := T2.setTop (mkF m 39 #[.val (.long j0), .second, .val (.int i1), .val (.int i2), .val (.int ln), .val (.ref b1), .val (.ref b2), .unset] [(.int ln)])) (fun t k => X2.arraylength hx Ar3.1 (State.isArrayOf_alike hZ.alike Ar3.2.1) (g := (mkF m 38 #[.val (.long j0), .second, .val (.int i1), .val (.int i2), .val (.int ln), .val (.ref b1), .val (.ref b2), .unset] [(.ref b1)])) rfl rfl (hb hby at_38) _ (by rw [len_of Sz3 Ng3]; exact k)) ?_
  refine own_by (B := T2.setTop (mkF m 41 #[.val (.long j0), .second, .val (.int i1), .val (.int i2), .val (.int ln), .val (.ref b1), .val (.ref b2), .unset] [(.int ln), (.int ln)])) (fun t k => XS.iload X2.here hx rfl (hb hby at_39) rfl k) ?_
  refine own_by (B := T2.setTop (mkF m 44 #[.val (.long j0), .second, .val (.int i1), .val (.int i2), .val (.int ln), .val (.ref b1), .val (.ref b2), .unset] [])) (fun t k => XS.icmpNo X2.here hx rfl (hb hby at_41) rfl (teq rfl).2 k) ?_
  refine own_by (B := T2.setTop (mkF m 46 #[.val (.long j0), .second, .val (.int i1), .val (.int i2), .val (.int ln), .val (.ref b1), .val (.ref b2), .unset] [(.ref b2)])) (fun t k => XS.aload X2.here hx rfl (hb hby at_44) rfl rfl k) ?_
  obtain ⟨cl4, Ar4, Sz4, Ng4, -⟩ := id V_b2
  refine own_by (B := T2.setTop (mkF m 47 #[.val (.long j0), .second, .val (.int i1), .val (.int i2), .val (.int ln), .val (.ref b1), .val (.ref b2), .unset] [(.int ln)])) (fun t k => X2.arraylength hx Ar4.1 (State.isArrayOf_alike hZ.alike Ar4.2.1) (g := (mkF m 46 #[.val (.long j0), .second, .val (.int i1), .val (.int i2), .val (.int ln), .val (.ref b1), .val (.ref b2), .unset] [(.ref b2)])) rfl rfl (hb hby at_46) _ (by rw [len_of Sz4 Ng4]; exact k)) ?_
  refine own_by (B := T2.setTop (mkF m 49 #[.val (.long j0), .second, .val (.int i1), .val (.int i2), .val (.int ln), .val (.ref b1), .val (.ref b2), .unset] [(.int ln), (.int ln)])) (fun t k => XS.iload X2.here hx rfl (hb hby at_47) rfl k) ?_
  refine own_by (B := T2.setTop (mkF m 54 #[.val (.long j0), .second, .val (.int i1), .val (.int i2), .val (.int ln), .val (.ref b1), .val (.ref b2), .unset] [])) (fun t k => XS.icmpYes X2.here hx rfl (pc0 := 49) (pc' := 54) rfl (hb hby at_49) rfl (teq rfl).1 (by decide) (by decide) k) ?_
  refine own_by (B := T2.setTop (mkF m 56 #[.val (.long j0), .second, .val (.int i1), .val (.int i2), .val (.int ln), .val (.ref b1), .val (.ref b2), .unset] [(.ref b1)])) (fun t k => XS.aload X2.here hx rfl (hb hby at_54) rfl rfl k) ?_
  refine own_by (B := T2.setTop (mkF m 58 #[.val (.long j0), .second, .val (.int i1), .val (.int i2), .val (.int ln), .val (.ref b1), .val (.ref b2), .unset] [(.ref b2), (.ref b1)])) (fun t k => XS.aload X2.here hx rfl (hb hby at_56) rfl rfl k) ?_
  refine own_by (B := T2.setTop (mkF m 63 #[.val (.long j0), .second, .val (.int i1), .val (.int i2), .val (.int ln), .val (.ref b1), .val (.ref b2), .unset] [])) (fun t k => Jvm.RoadKit.acmp (g := (mkF m 58 #[.val (.long j0), .second, .val (.int i1), .val (.int i2), .val (.int ln), .val (.ref b1), .val (.ref b2), .unset] [(.ref b2), (.ref b1)])) X2 hx rfl rfl rfl (pc0 := 58) (pc' := 63) (same := false) rfl (hb hby at_58) rfl (decide_eq_false fun q => ne_b1_b2 (Value.ref.inj q)) (by decide) (by decide) k) ?_
  refine own_by (B := T2.setTop (mkF m 65 #[.val (.long j0), .second, .val (.int i1), .val (.int i2), .val (.int ln), .val (.ref b1), .val (.ref b2), .unset] [(.int ln)])) (fun t k => XS.iload X2.here hx rfl (hb hby at_63) rfl k) ?_
  by_cases hc65 : ln = (0 : Int32)
  · refine own_by (B := T2.setTop (mkF m 68 #[.val (.long j0), .second, .val (.int i1), .val (.int i2), .val (.int ln), .val (.ref b1), .val (.ref b2), .unset] [])) (fun t k => XS.ifNo X2.here hx rfl (hb hby at_65) rfl ((if0 _ _).trans (teq hc65).2) k) ?_
    refine own_by (B := T2.setTop (mkF m 69 #[.val (.long j0), .second, .val (.int i1), .val (.int i2), .val (.int ln), .val (.ref b1), .val (.ref b2), .unset] [(.int (1 : Int32))])) (fun t k => XS.iconst X2.here hx rfl (hb hby at_68) k) ?_
    exact own_end X2 (v := some (.int (1 : Int32))) (fun h => by rw [Bd.returns] at h; cases h) (BodyLoose.notSynchronized Bd) (Q := (Q_rm0 Z j0 i1 i2 h0 n0)) (fun fs hr => retN X2 hx (t := .boolean) Bd.returns (by simp) (hb hby at_69) hr) (show (Q_rm0 Z j0 i1 i2 h0 n0) _ T2.heap _ from (⟨rfl, Nf⟩)) (by decide) (by decide)
  · refine own_by (B := T2.setTop (mkF m 70 #[.val (.long j0), .second, .val (.int i1), .val (.int i2), .val (.int ln), .val (.ref b1), .val (.ref b2), .unset] [])) (fun t k => XS.ifYes X2.here hx rfl (pc0 := 65) (pc' := 70) rfl (hb hby at_65) rfl ((if0 _ _).trans (feq hc65).2) (by decide) (by decide) k) ?_
    refine own_by (B := T2.setTop (mkF m 71 #[.val (.long j0), .second, .val (.int i1), .val (.int i2), .val (.int ln), .val (.ref b1), .val (.ref b2), .unset] [(.int i1)])) (fun t k => XS.iloadN X2.here hx rfl (hb hby at_70) rfl k) ?_
    refine own_by (B := T2.setTop (mkF m 73 #[.val (.long j0), .second, .val (.int i1), .val (.int i2), .val (.int ln), .val (.ref b1), .val (.ref b2), .unset] [(.int (2147483647 : Int32)), (.int i1)])) (fun t k => X2.ldcInt hx hown (mvT hZ (hw _ (List.mem_of_getElem? (i := 7) rfl))) (g := (mkF m 71 #[.val (.long j0), .second, .val (.int i1), .val (.int i2), .val (.int ln), .val (.ref b1), .val (.ref b2), .unset] [(.int i1)])) rfl (hb hby at_71) _ k) ?_
    refine own_by (B := T2.setTop (mkF m 74 #[.val (.long j0), .second, .val (.int i1), .val (.int i2), .val (.int ln), .val (.ref b1), .val (.ref b2), .unset] [(.int (i1 &&& (2147483647 : Int32)))])) (fun t k => XS.iand X2.here hx rfl (hb hby at_73) rfl k) ?_
    refine own_by (B := T2.setTop (mkF m 76 #[.val (.long j0), .second, .val (.int i1), .val (.int i2), .val (.int ln), .val (.ref b1), .val (.ref b2), .unset] [(.int ln), (.int (i1 &&& (2147483647 : Int32)))])) (fun t k => XS.iload X2.here hx rfl (hb hby at_74) rfl k) ?_
    refine own_by (B := T2.setTop (mkF m 77 #[.val (.long j0), .second, .val (.int i1), .val (.int i2), .val (.int ln), .val (.ref b1), .val (.ref b2), .unset] [(.int ((i1 &&& (2147483647 : Int32)) % ln))])) (fun t k => iremM (g := (mkF m 76 #[.val (.long j0), .second, .val (.int i1), .val (.int i2), .val (.int ln), .val (.ref b1), .val (.ref b2), .unset] [(.int ln), (.int (i1 &&& (2147483647 : Int32)))])) X2 hx rfl (hb hby at_76) rfl hc65 k) ?_
    refine own_by (B := T2.setTop (mkF m 79 #[.val (.long j0), .second, .val (.int i1), .val (.int i2), .val (.int ln), .val (.ref b1), .val (.ref b2), .val (.int ((i1 &&& (2147483647 : Int32)) % ln))] [])) (fun t k => XS.istore X2.here hx rfl (hb hby at_77) rfl (l' := #[.val (.long j0), .second, .val (.int i1), .val (.int i2), .val (.int ln), .val (.ref b1), .val (.ref b2), .val (.int ((i1 &&& (2147483647 : Int32)) % ln))]) rfl k) ?_
    have hp := own_pos hl.1 hc65
    generalize h_kk : ((i1 &&& (2147483647 : Int32)) % ln) = kk
    have hkk : 0 ≤ kk.toInt ∧ kk.toInt < ln.toInt := by rw [← h_kk]; exact own_rem hp
    have hz := own_inb (j := 0) (n := ln) (by decide) hp
    have hk := own_inb hkk.1 hkk.2
    have hla := own_inb (own_last hp).1 (own_last hp).2
    have hodd := own_odd i2
    refine own_by (B := T2.setTop (mkF m 81 #[.val (.long j0), .second, .val (.int i1), .val (.int i2), .val (.int ln), .val (.ref b1), .val (.ref b2), .val (.int kk)] [(.ref b1)])) (fun t k => XS.aload X2.here hx rfl (hb hby at_79) rfl rfl k) ?_
    refine own_by (B := T2.setTop (mkF m 82 #[.val (.long j0), .second, .val (.int i1), .val (.int i2), .val (.int ln), .val (.ref b1), .val (.ref b2), .val (.int kk)] [(.int (0 : Int32)), (.ref b1)])) (fun t k => XS.iconst X2.here hx rfl (hb hby at_81) k) ?_
    obtain ⟨cl5, Ar5, hin5, hat5⟩ := V_b1.at (j := (0 : Int32)) hz
    have hat5 := hat5.trans (congrArg some (show _ = (.int (0 : Int32)) from rfl))
    refine own_by (B := T2.setTop (mkF m 83 #[.val (.long j0), .second, .val (.int i1), .val (.int i2), .val (.int ln), .val (.ref b1), .val (.ref b2), .val (.int kk)] [(.int (0 : Int32))])) (fun t k => X2.baloadBytes hx (j := (0 : Int32)) (v := (.int (0 : Int32))) Ar5.1 (State.isArrayOf_alike hZ.alike Ar5.2.1) Ar5.2.2 hin5 hat5 (g := (mkF m 82 #[.val (.long j0), .second, .val (.int i1), .val (.int i2), .val (.int ln), .val (.ref b1), .val (.ref b2), .val (.int kk)] [(.int (0 : Int32)), (.ref b1)])) rfl rfl (hb hby at_82) _ k) ?_
    refine own_by (B := T2.setTop (mkF m 86 #[.val (.long j0), .second, .val (.int i1), .val (.int i2), .val (.int ln), .val (.ref b1), .val (.ref b2), .val (.int kk)] [])) (fun t k => XS.ifNo X2.here hx rfl (hb hby at_83) rfl ((if0 _ _).trans (teq (by decide)).2) k) ?_
    refine own_by (B := T2.setTop (mkF m 88 #[.val (.long j0), .second, .val (.int i1), .val (.int i2), .val (.int ln), .val (.ref b1), .val (.ref b2), .val (.int kk)] [(.ref b1)])) (fun t k => XS.aload X2.here hx rfl (hb hby at_86) rfl rfl k) ?_
    refine own_by (B := T2.setTop (mkF m 90 #[.val (.long j0), .second, .val (.int i1), .val (.int i2), .val (.int ln), .val (.ref b1), .val (.ref b2), .val (.int kk)] [(.int kk), (.ref b1)])) (fun t k => XS.iload X2.here hx rfl (hb hby at_88) rfl k) ?_
    obtain ⟨cl6, Ar6, hin6, hat6⟩ := V_b1.at (j := kk) hk
    have hat6 := hat6.trans (congrArg some (show _ = (.int (0 : Int32)) from rfl))
    refine own_by (B := T2.setTop (mkF m 91 #[.val (.long j0), .second, .val (.int i1), .val (.int i2), .val (.int ln), .val (.ref b1), .val (.ref b2), .val (.int kk)] [(.int (0 : Int32))])) (fun t k => X2.baloadBytes hx (j := kk) (v := (.int (0 : Int32))) Ar6.1 (State.isArrayOf_alike hZ.alike Ar6.2.1) Ar6.2.2 hin6 hat6 (g := (mkF m 90 #[.val (.long j0), .second, .val (.int i1), .val (.int i2), .val (.int ln), .val (.ref b1), .val (.ref b2), .val (.int kk)] [(.int kk), (.ref b1)])) rfl rfl (hb hby at_90) _ k) ?_
    refine own_by (B := T2.setTop (mkF m 94 #[.val (.long j0), .second, .val (.int i1), .val (.int i2), .val (.int ln), .val (.ref b1), .val (.ref b2), .val (.int kk)] [])) (fun t k => XS.ifNo X2.here hx rfl (hb hby at_91) rfl ((if0 _ _).trans (teq (by decide)).2) k) ?_
    refine own_by (B := T2.setTop (mkF m 96 #[.val (.long j0), .second, .val (.int i1), .val (.int i2), .val (.int ln), .val (.ref b1), .val (.ref b2), .val (.int kk)] [(.ref b1)])) (fun t k => XS.aload X2.here hx rfl (hb hby at_94) rfl rfl k) ?_
    refine own_by (B := T2.setTop (mkF m 98 #[.val (.long j0), .second, .val (.int i1), .val (.int i2), .val (.int ln), .val (.ref b1), .val (.ref b2), .val (.int kk)] [(.int ln), (.ref b1)])) (fun t k => XS.iload X2.here hx rfl (hb hby at_96) rfl k) ?_
    refine own_by (B := T2.setTop (mkF m 99 #[.val (.long j0), .second, .val (.int i1), .val (.int i2), .val (.int ln), .val (.ref b1), .val (.ref b2), .val (.int kk)] [(.int (1 : Int32)), (.int ln), (.ref b1)])) (fun t k => XS.iconst X2.here hx rfl (hb hby at_98) k) ?_
    refine own_by (B := T2.setTop (mkF m 100 #[.val (.long j0), .second, .val (.int i1), .val (.int i2), .val (.int ln), .val (.ref b1), .val (.ref b2), .val (.int kk)] [(.int (ln - (1 : Int32))), (.ref b1)])) (fun t k => XS.isub X2.here hx rfl (hb hby at_99) rfl k) ?_
    obtain ⟨cl7, Ar7, hin7, hat7⟩ := V_b1.at (j := (ln - (1 : Int32))) hla
    have hat7 := hat7.trans (congrArg some (show _ = (.int (0 : Int32)) from rfl))
    refine own_by (B := T2.setTop (mkF m 101 #[.val (.long j0), .second, .val (.int i1), .val (.int i2), .val (.int ln), .val (.ref b1), .val (.ref b2), .val (.int kk)] [(.int (0 : Int32))])) (fun t k => X2.baloadBytes hx (j := (ln - (1 : Int32))) (v := (.int (0 : Int32))) Ar7.1 (State.isArrayOf_alike hZ.alike Ar7.2.1) Ar7.2.2 hin7 hat7 (g := (mkF m 100 #[.val (.long j0), .second, .val (.int i1), .val (.int i2), .val (.int ln), .val (.ref b1), .val (.ref b2), .val (.int kk)] [(.int (ln - (1 : Int32))), (.ref b1)])) rfl rfl (hb hby at_100) _ k) ?_
    refine own_by (B := T2.setTop (mkF m 104 #[.val (.long j0), .second, .val (.int i1), .val (.int i2), .val (.int ln), .val (.ref b1), .val (.ref b2), .val (.int kk)] [])) (fun t k => XS.ifNo X2.here hx rfl (hb hby at_101) rfl ((if0 _ _).trans (teq (by decide)).2) k) ?_
    refine own_by (B := T2.setTop (mkF m 106 #[.val (.long j0), .second, .val (.int i1), .val (.int i2), .val (.int ln), .val (.ref b1), .val (.ref b2), .val (.int kk)] [(.ref b2)])) (fun t k => XS.aload X2.here hx rfl (hb hby at_104) rfl rfl k) ?_
    refine own_by (B := T2.setTop (mkF m 108 #[.val (.long j0), .second, .val (.int i1), .val (.int i2), .val (.int ln), .val (.ref b1), .val (.ref b2), .val (.int kk)] [(.int kk), (.ref b2)])) (fun t k => XS.iload X2.here hx rfl (hb hby at_106) rfl k) ?_
    obtain ⟨cl8, Ar8, hin8, hat8⟩ := V_b2.at (j := kk) hk
    have hat8 := hat8.trans (congrArg some (show _ = (.int (0 : Int32)) from rfl))
    refine own_by (B := T2.setTop (mkF m 109 #[.val (.long j0), .second, .val (.int i1), .val (.int i2), .val (.int ln), .val (.ref b1), .val (.ref b2), .val (.int kk)] [(.int (0 : Int32))])) (fun t k => X2.baloadBytes hx (j := kk) (v := (.int (0 : Int32))) Ar8.1 (State.isArrayOf_alike hZ.alike Ar8.2.1) Ar8.2.2 hin8 hat8 (g := (mkF m 108 #[.val (.long j0), .second, .val (.int i1), .val (.int i2), .val (.int ln), .val (.ref b1), .val (.ref b2), .val (.int kk)] [(.int kk), (.ref b2)])) rfl rfl (hb hby at_108) _ k) ?_
    refine own_by (B := T2.setTop (mkF m 114 #[.val (.long j0), .second, .val (.int i1), .val (.int i2), .val (.int ln), .val (.ref b1), .val (.ref b2), .val (.int kk)] [])) (fun t k => XS.ifYes X2.here hx rfl (pc0 := 109) (pc' := 114) rfl (hb hby at_109) rfl ((if0 _ _).trans (teq (by decide)).1) (by decide) (by decide) k) ?_
    refine own_by (B := T2.setTop (mkF m 116 #[.val (.long j0), .second, .val (.int i1), .val (.int i2), .val (.int ln), .val (.ref b1), .val (.ref b2), .val (.int kk)] [(.ref b1)])) (fun t k => XS.aload X2.here hx rfl (hb hby at_114) rfl rfl k) ?_
    refine own_by (B := T2.setTop (mkF m 118 #[.val (.long j0), .second, .val (.int i1), .val (.int i2), .val (.int ln), .val (.ref b1), .val (.ref b2), .val (.int kk)] [(.int kk), (.ref b1)])) (fun t k => XS.iload X2.here hx rfl (hb hby at_116) rfl k) ?_
    refine own_by (B := T2.setTop (mkF m 119 #[.val (.long j0), .second, .val (.int i1), .val (.int i2), .val (.int ln), .val (.ref b1), .val (.ref b2), .val (.int kk)] [(.int i2), (.int kk), (.ref b1)])) (fun t k => XS.iloadN X2.here hx rfl (hb hby at_118) rfl k) ?_
    refine own_by (B := T2.setTop (mkF m 120 #[.val (.long j0), .second, .val (.int i1), .val (.int i2), .val (.int ln), .val (.ref b1), .val (.ref b2), .val (.int kk)] [(.int (1 : Int32)), (.int i2), (.int kk), (.ref b1)])) (fun t k => XS.iconst X2.here hx rfl (hb hby at_119) k) ?_
    refine own_by (B := T2.setTop (mkF m 121 #[.val (.long j0), .second, .val (.int i1), .val (.int i2), .val (.int ln), .val (.ref b1), .val (.ref b2), .val (.int kk)] [(.int (i2 ||| (1 : Int32))), (.int kk), (.ref b1)])) (fun t k => XS.ior X2.here hx rfl (hb hby at_120) rfl k) ?_
    refine own_by (B := T2.setTop (mkF m 122 #[.val (.long j0), .second, .val (.int i1), .val (.int i2), .val (.int ln), .val (.ref b1), .val (.ref b2), .val (.int kk)] [(.int ((i2 ||| (1 : Int32)).toInt8.toInt32)), (.int kk), (.ref b1)])) (fun t k => XS.i2b X2.here hx rfl (hb hby at_121) rfl k) ?_
    obtain ⟨cl9, Ar9, hin9, -⟩ := V_b1.at (j := kk) hk
    obtain ⟨T9, h9, X9, e9, W9, st9⟩ := stB X2 hx hZ rfl Ar9 (j := kk) hin9 (g := (mkF m 122 #[.val (.long j0), .second, .val (.int i1), .val (.int i2), .val (.int ln), .val (.ref b1), .val (.ref b2), .val (.int kk)] [(.int ((i2 ||| (1 : Int32)).toInt8.toInt32)), (.int kk), (.ref b1)])) rfl rfl (hb hby at_122)
    have V_b1 := V_b1.set W9
    have V_b2 := V_b2.other W9 (Ne.symm ne_b1_b2)
    have Zs : n0 ≤ h9.size := by rw [W9.size]; exact Zs
    have Nf := Fr.snoc X9 Nf g_b1
    refine own_by (B := T9.setTop (mkF m 123 #[.val (.long j0), .second, .val (.int i1), .val (.int i2), .val (.int ln), .val (.ref b1), .val (.ref b2), .val (.int kk)] [])) st9 ?_
    refine own_by (B := T9.setTop (mkF m 125 #[.val (.long j0), .second, .val (.int i1), .val (.int i2), .val (.int ln), .val (.ref b1), .val (.ref b2), .val (.int kk)] [(.ref b2)])) (fun t k => XS.aload X9.here hx rfl (hb hby at_123) rfl rfl k) ?_
    refine own_by (B := T9.setTop (mkF m 127 #[.val (.long j0), .second, .val (.int i1), .val (.int i2), .val (.int ln), .val (.ref b1), .val (.ref b2), .val (.int kk)] [(.int kk), (.ref b2)])) (fun t k => XS.iload X9.here hx rfl (hb hby at_125) rfl k) ?_
    obtain ⟨cl10, Ar10, hin10, hat10⟩ := V_b2.at (j := kk) hk
    have hat10 := hat10.trans (congrArg some (show _ = (.int (0 : Int32)) from rfl))
    refine own_by (B := T9.setTop (mkF m 128 #[.val (.long j0), .second, .val (.int i1), .val (.int i2), .val (.int ln), .val (.ref b1), .val (.ref b2), .val (.int kk)] [(.int (0 : Int32))])) (fun t k => X9.baloadBytes hx (j := kk) (v := (.int (0 : Int32))) (by rw [e9]; exact Ar10.1) (State.isArrayOf_alike hZ.alike Ar10.2.1) Ar10.2.2 hin10 hat10 (g := (mkF m 127 #[.val (.long j0), .second, .val (.int i1), .val (.int i2), .val (.int ln), .val (.ref b1), .val (.ref b2), .val (.int kk)] [(.int kk), (.ref b2)])) rfl rfl (hb hby at_127) _ k) ?_
    refine own_by (B := T9.setTop (mkF m 131 #[.val (.long j0), .second, .val (.int i1), .val (.int i2), .val (.int ln), .val (.ref b1), .val (.ref b2), .val (.int kk)] [])) (fun t k => XS.ifNo X9.here hx rfl (hb hby at_128) rfl ((if0 _ _).trans (teq (by decide)).2) k) ?_
    refine own_by (B := T9.setTop (mkF m 133 #[.val (.long j0), .second, .val (.int i1), .val (.int i2), .val (.int ln), .val (.ref b1), .val (.ref b2), .val (.int kk)] [(.ref b1)])) (fun t k => XS.aload X9.here hx rfl (hb hby at_131) rfl rfl k) ?_
    refine own_by (B := T9.setTop (mkF m 135 #[.val (.long j0), .second, .val (.int i1), .val (.int i2), .val (.int ln), .val (.ref b1), .val (.ref b2), .val (.int kk)] [(.int kk), (.ref b1)])) (fun t k => XS.iload X9.here hx rfl (hb hby at_133) rfl k) ?_
    obtain ⟨cl11, Ar11, hin11, hat11⟩ := V_b1.at (j := kk) hk
    have hat11 := hat11.trans (congrArg some (show _ = (.int (nar .byte ((i2 ||| (1 : Int32)).toInt8.toInt32))) from if_pos rfl))
    refine own_by (B := T9.setTop (mkF m 136 #[.val (.long j0), .second, .val (.int i1), .val (.int i2), .val (.int ln), .val (.ref b1), .val (.ref b2), .val (.int kk)] [(.int (nar .byte ((i2 ||| (1 : Int32)).toInt8.toInt32)))])) (fun t k => X9.baloadBytes hx (j := kk) (v := (.int (nar .byte ((i2 ||| (1 : Int32)).toInt8.toInt32)))) (by rw [e9]; exact Ar11.1) (State.isArrayOf_alike hZ.alike Ar11.2.1) Ar11.2.2 hin11 hat11 (g := (mkF m 135 #[.val (.long j0), .second, .val (.int i1), .val (.int i2), .val (.int ln), .val (.ref b1), .val (.ref b2), .val (.int kk)] [(.int kk), (.ref b1)])) rfl rfl (hb hby at_135) _ k) ?_
    refine own_by (B := T9.setTop (mkF m 139 #[.val (.long j0), .second, .val (.int i1), .val (.int i2), .val (.int ln), .val (.ref b1), .val (.ref b2), .val (.int kk)] [])) (fun t k => XS.ifNo X9.here hx rfl (hb hby at_136) rfl ((if0 _ _).trans (feq hodd).1) k) ?_
    refine own_by (B := T9.setTop (mkF m 140 #[.val (.long j0), .second, .val (.int i1), .val (.int i2), .val (.int ln), .val (.ref b1), .val (.ref b2), .val (.int kk)] [(.int (1 : Int32))])) (fun t k => XS.iconst X9.here hx rfl (hb hby at_139) k) ?_
    refine own_by (B := T9.setTop (mkF m 144 #[.val (.long j0), .second, .val (.int i1), .val (.int i2), .val (.int ln), .val (.ref b1), .val (.ref b2), .val (.int kk)] [(.int (1 : Int32))])) (fun t k => XS.goto X9.here hx rfl (pc0 := 140) (pc' := 144) rfl (hb hby at_140) (by decide) (by decide) k) ?_
    exact own_end X9 (v := some (.int (1 : Int32))) (fun h => by rw [Bd.returns] at h; cases h) (BodyLoose.notSynchronized Bd) (Q := (Q_rm0 Z j0 i1 i2 h0 n0)) (fun fs hr => retN X9 hx (t := .boolean) Bd.returns (by simp) (hb hby at_144) hr) (show (Q_rm0 Z j0 i1 i2 h0 n0) _ T9.heap _ from (by rw [e9]; exact ⟨rfl, Nf⟩)) (by decide) (by decide)
set_option maxRecDepth 65536 in
set_option maxHeartbeats 40000000 in
theorem comes_1 {Post : Tables → Env → Array Value → State → Outcome → State → Prop} (hpost : ∀ tb e args s v u, (limb_1_1.after args s (.returned v) u = true ∧ limb_1_2.after args s (.returned v) u = true ∧ True) → FrameEnd s (.returned v) u (Jvm.fieldLocs frame_1_writes args s ++ Jvm.arrayLocs frame_1_arrays args s ++ Jvm.staticLocs frame_1_statics s) 16 4160 → Post tb e args s (.returned v) u) :
    ArmFor flags0 classFile x code maxLocals ret World_1 tables_1 room_1 Calls_1 rest_1 Pre_1 Post := by
  intro l hfl _ _ p e ha hc hk s m args below hf hA hF happ hP
  obtain ⟨hcalls, hrest, hpre⟩ := hP
  obtain ⟨-, -, -, hnamed, -, -, -, hat⟩ := (Spec.applies_iff hf).mp happ
  obtain ⟨hg, hn⟩ := and_e (Cond.before_iff.mp (show (Jvm.Cond.and given_1 narrow_1).before args s = true from hpre))
  obtain ⟨hcount, hg0⟩ := and_e hg
  obtain ⟨hv0, hg1⟩ := and_e hg0
  obtain ⟨hv1, hg2⟩ := and_e hg1
  have hv2 := hg2
  obtain ⟨w0, w1, w2, rfl⟩ : ∃ w0 w1 w2 : Value, args = #[w0, w1, w2] := by
    have hs : args.size = 3 := by simpa [Cond.value, given_1] using hcount
    obtain ⟨L⟩ := args
    match L, hs with
    | [w0, w1, w2], _ => exact ⟨w0, w1, w2, rfl⟩
  have hw := fun d (hd : d ∈ tables_1) => atoms_spec (ws := Jvm.Cond.code x code maxLocals ret :: tables_1) hat d (List.mem_cons_of_mem _ hd)
  have hfit : Fit s := fun {y c} hc i hi => by
    obtain ⟨ha, rfl⟩ := Array.getElem?_eq_some_iff.mp hc
    have q := List.all_eq_true.mp ((Array.all_eq_true_iff_forall_mem.mp hF) _ (Array.getElem_mem ha)) i (List.mem_range.mpr hi)
    simpa [Array.getElem?_eq_getElem hi] using q
  obtain ⟨i0, ei0⟩ := isL_v hv0
  obtain rfl : w0 = (.long i0) := Option.some.inj ei0
  obtain ⟨i1, ei1⟩ := is_v hv1
  obtain rfl : w1 = (.int i1) := Option.some.inj ei1
  obtain ⟨i2, ei2⟩ := is_v hv2
  obtain rfl : w2 = (.int i2) := Option.some.inj ei2
  obtain ⟨n, o, h1, h2, h3, _, L, rfl, ⟨rfl, N⟩, hq⟩ := rm0 l s _ hw tables_1 i0 i1 i2 s.heap s.heap.size (Nat.le_refl _)  p e ha hc hk s m _ below hf ((Spec.applies_iff_loose hf).mp happ).1 ⟨rfl, State.Warmed39.refl s, rfl⟩ trivial
  refine ⟨n, _, h1, h2, h3, hpost _ _ _ _ _ _ ⟨Cond.after_iff.mpr rfl, Cond.after_iff.mpr (eq_i res_at (Term.int_eval (1)) rfl), trivial⟩ ⟨hq.1, hq.2.1, (hq.2.2.sift fun y hy => Or.inr (N y hy)).mono (by decide) (by decide)⟩⟩
theorem main_1_1 : Claimed_1_1 := comes_1 fun _ _ _ _ _ _ h hF => ⟨h.1, hF⟩
theorem main_1_2 : Claimed_1_2 := comes_1 fun _ _ _ _ _ _ h hF => ⟨h.2.1, hF⟩
end Jvm.Pilot.@@N@@
namespace Jvm.Pilot.@@N@@
open Jvm Jvm.ClassFile Sem Op Lib Jvm.Free Jvm.Stand Jvm.Pilot.@@N@@.Jvm.D
/-! MADE BY PROGRAM (witnessworld.py) out of the Statement's table words and the real class files: 9 classes; the members and pool entries that the words name. The judged class is class 1, her method 1. -/
namespace start1
open Jvm.ClassFile
def u (s : String) : CpInfo := .utf8 (stringToUtf16 s)
/-- a pool by its gaps: so many unusable entries, then the entry; so many at the end -/
def gap : Nat → List CpInfo → List CpInfo
  | 0, r => r
  | n + 1, r => .unusable :: gap n r
def poolList (es : List (Nat × CpInfo)) (last : Nat) : List CpInfo := es.foldr (fun e r => gap e.1 (e.2 :: r)) (gap last [])
def pool (es : List (Nat × CpInfo)) (last : Nat) : Array CpInfo := ⟨poolList es last⟩
def fileOf (pool : Array CpInfo) (this : Nat) (attrs : Array Attribute := #[]) (ms : Array MethodInfo := #[]) (fl : Nat := 33) (sup : Nat := 0) (ifs : Array Nat := #[]) (fds : Array FieldInfo := #[]) : ClassFile where
  minorVersion := 0
  majorVersion := 65
  constantPool := pool
  accessFlags := fl
  thisClass := this
  superClass := sup
  interfaces := ifs
  fields := fds
  methods := ms
  attributes := attrs
def plain (name : String) (sup : Option ClassId) : Class where
  name := name
  kind := .ordinary
  loader := none
  accessFlags := 33
  super := sup
  interfaces := #[]
  cf := none
  fields := #[]
  methods := #[]
  instanceTypes := #[]
  staticTypes := #[]
  resolved := #[]
  callSites := []
  init := .initialized
  statics := none
  mirror := none

def pool0 : Array CpInfo := pool [(5, u "<init>"), (0, u "()V"), (1, .class_ 10), (1, u "java/lang/Object")] 113

def k0m0 : Method := { name := "<init>", desc := "()V", sig := { parameters := [], returnType := none }, accessFlags := 1, code := none }
/-- java/lang/Object -/
def k0 : Class := { plain "java/lang/Object" none with
  accessFlags := 33
  interfaces := #[]
  cf := some (fileOf pool0 8 #[] #[{ accessFlags := 1, nameIndex := 5, descriptorIndex := 6, attributes := #[] }] 33 0 #[] #[])
  fields := #[]
  methods := #[k0m0]
  instanceTypes := #[]
  staticTypes := #[]
  resolved := Array.replicate 124 none
  statics := none }

def pool1 : Array CpInfo := pool [(2, .class_ 4), (1, u "java/lang/Object"), (0, u "<init>"), (0, u "()V"), (0, .long 1023), (1, .methodref 10 11), (0, .class_ 12), (0, .nameAndType 13 14), (0, u "com/example/pipehat/pipehat/Text"), (0, u "allocate"), (0, u "(J)[B"), (0, .integer 2147483647), (0, .class_ 17), (0, u "com/example/pipehat/pipehat/TextAllocatePinLaw"), (2, u "law"), (0, u "(JII)Z")] 5

def k1m0 : Method := { name := "<init>", desc := "()V", sig := { parameters := [], returnType := none }, accessFlags := 1, code := none }
def k1c1 : Code := { maxStack := 4, maxLocals := 8, code := code, exceptionTable := #[], attributes := #[] }
def k1m1 : Method := { name := "law", desc := "(JII)Z", sig := { parameters := [.long, .int, .int], returnType := some .boolean }, accessFlags := 9, code := some k1c1 }
/-- com/example/pipehat/pipehat/TextAllocatePinLaw -/
def k1 : Class := { plain "com/example/pipehat/pipehat/TextAllocatePinLaw" (some 0) with
  accessFlags := 49
  interfaces := #[]
  cf := some (fileOf pool1 16 #[] #[{ accessFlags := 1, nameIndex := 5, descriptorIndex := 6, attributes := #[] }, { accessFlags := 9, nameIndex := 20, descriptorIndex := 21, attributes := #[] }] 49 2 #[] #[])
  fields := #[]
  methods := #[k1m0, k1m1]
  instanceTypes := #[]
  staticTypes := #[]
  resolved := Array.replicate 27 none
  statics := none }

def pool2 : Array CpInfo := pool [(4, .class_ 6), (1, u "java/lang/Object"), (3, .class_ 12), (1, u "com/example/pipehat/pipehat/Text"), (0, u "bytes"), (0, u "[B"), (2, u "charset"), (0, u "Ljava/nio/charset/Charset;"), (69, u "allocate"), (0, u "(J)[B"), (6, .class_ 97), (0, u "com/example/pipehat/pipehat/Text$1"), (45, .long 2147483639), (93, u "LARGEST_ARRAY"), (0, u "I")] 58

def k2c0 : Code := { maxStack := 4, maxLocals := 2, code := prog_55_method_7_code, exceptionTable := #[], attributes := #[] }
def k2m0 : Method := { name := "allocate", desc := "(J)[B", sig := { parameters := [.long], returnType := some (.array .byte) }, accessFlags := 8, code := some k2c0 }
/-- com/example/pipehat/pipehat/Text -/
def k2 : Class := { plain "com/example/pipehat/pipehat/Text" (some 0) with
  accessFlags := 48
  interfaces := #[]
  cf := some (fileOf pool2 10 #[.nestMembers #[96]] #[{ accessFlags := 8, nameIndex := 88, descriptorIndex := 89, attributes := #[] }] 48 4 #[] #[{ accessFlags := 24, nameIndex := 237, descriptorIndex := 238, attributes := #[] }, { accessFlags := 18, nameIndex := 13, descriptorIndex := 14, attributes := #[] }, { accessFlags := 18, nameIndex := 17, descriptorIndex := 18, attributes := #[] }])
  fields := #[{ name := "LARGEST_ARRAY", type := .int, accessFlags := 24, slot := 0, constantValue := 0 }, { name := "bytes", type := (.array .byte), accessFlags := 18, slot := 0, constantValue := 0 }, { name := "charset", type := (.object "java/nio/charset/Charset"), accessFlags := 18, slot := 1, constantValue := 0 }]
  methods := #[k2m0]
  instanceTypes := #[(.array .byte), (.object "java/nio/charset/Charset")]
  staticTypes := #[.int]
  resolved := Array.replicate 297 none
  statics := none }

def pool3 : Array CpInfo := pool [(1, u "java/lang/Cloneable"), (0, .class_ 1), (0, u "java/lang/Object"), (0, .class_ 3)] 3

/-- java/lang/Cloneable -/
def k3 : Class := { plain "java/lang/Cloneable" (some 0) with
  accessFlags := 1537
  interfaces := #[]
  cf := some (fileOf pool3 2 #[] #[] 1537 4 #[] #[])
  fields := #[]
  methods := #[]
  instanceTypes := #[]
  staticTypes := #[]
  resolved := Array.replicate 8 none
  statics := none }

def pool4 : Array CpInfo := pool [(1, u "java/io/Serializable"), (0, .class_ 1), (0, u "java/lang/Object"), (0, .class_ 3)] 3

/-- java/io/Serializable -/
def k4 : Class := { plain "java/io/Serializable" (some 0) with
  accessFlags := 1537
  interfaces := #[]
  cf := some (fileOf pool4 2 #[] #[] 1537 4 #[] #[])
  fields := #[]
  methods := #[]
  instanceTypes := #[]
  staticTypes := #[]
  resolved := Array.replicate 8 none
  statics := none }

/-- the primitive byte -/
def k5 : Class := { plain "byte" none with kind := .primitive 'B', accessFlags := 0x411 }
/-- [B -/
def k6 : Class := { plain "[B" (some 0) with kind := .array 5 .byte, interfaces := #[3, 4], accessFlags := 1041 }

/-- the primitive int -/
def k7 : Class := { plain "int" none with kind := .primitive 'I', accessFlags := 0x411 }
/-- [I -/
def k8 : Class := { plain "[I" (some 0) with kind := .array 7 .int, interfaces := #[3, 4], accessFlags := 1041 }

def heap : Heap := #[]
def classes : Array Class := #[k0, k1, k2, k3, k4, k5, k6, k7, k8]
def interned : List (Array UInt16 × Addr) := []
def slotsUsed : Nat := 0
def theMethod : MethodId := ⟨1, 1⟩
def args0 : Array Value := #[.long 5, .int 3, .int 2]
def aboutOver (below : List Frame) : State where
  vm := { classes := classes, interned := interned.toArray }
  heap := heap
  slotsUsed := slotsUsed
  threads := #[{ frames := .invoking theMethod args0 :: below }]
def below0 : List Frame := [.native { method := ⟨0, 0⟩, args := #[] }]
def about1 : State := aboutOver below0
def p0 : Program := .bare "" "" ""
def e0 : Env := launch0.env 0 0 0
theorem w_frames : about1.frames = Frame.invoking theMethod args0 :: below0 := rfl
set_option maxRecDepth 65536 in
theorem w_args : argsFit about1.vm theMethod args0 = true := by decide +kernel
set_option maxRecDepth 65536 in
theorem w_heap : heapFits about1 = true := by decide +kernel
set_option maxRecDepth 65536 in
theorem w_runnable : about1.curStatus? = some .runnable := by decide +kernel
set_option maxRecDepth 65536 in
theorem w_alone : about1.alone = true := by decide +kernel
set_option maxRecDepth 65536 in
theorem w_named : about1.methodNamed? x = some theMethod := by decide +kernel
set_option maxRecDepth 65536 in
theorem w_hears : about1.hears theMethod below0 = true := by decide +kernel
set_option maxRecDepth 65536 in
theorem w_ripe : about1.ripe theMethod args0 below0 = true := by decide +kernel
theorem w_running : about1.status = .running := rfl
set_option maxRecDepth 65536 in
theorem w_room : about1.hasRoom e0.platform room_1 = true :=
  launch0.hasRoom_least _ room_1 (by decide +kernel) (by decide +kernel) (by decide +kernel) (by decide +kernel) (by decide +kernel) (by decide +kernel)
theorem allAtoms_all (ts : List Jvm.Cond) (a : Array Jvm.Value) (st : Jvm.State) : (allAtoms ts).before a st = ts.all (fun c => c.before a st) := by
  induction ts with
  | nil => rfl
  | cons c t ih =>
    show (Jvm.Cond.and c (allAtoms t)).before a st = _
    rw [Jvm.Cond.before_and, ih, List.all_cons]
def words1 : List Jvm.Cond := Jvm.Cond.code x code maxLocals ret :: tables_1
/-- a 'code' word, met by the world's own term for the bytes: nothing is compared byte by byte -/
theorem code_word {y : MethodName} {bytes : ByteArray} {mx : Nat} {rt : Option FieldType} {a : Array Value} {s : State} {m : MethodId} {meth : Method} {c : Code} (h1 : s.methodNamed? y = some m) (h2 : s.vm.method? m = some meth) (h3 : meth.code = some c) (h4 : c.code = bytes)
    (h5 : (c.maxLocals == mx && c.exceptionTable.isEmpty && decide (c.maxStack ≤ mostOperands) && decide (meth.sig.returnType = rt) && !meth.locks && decide (parseMethodDescriptor y.desc = some meth.sig)) = true) : (Jvm.Cond.code y bytes mx rt).before a s = true := by
  simp only [Bool.and_eq_true, beq_iff_eq, Bool.not_eq_true', decide_eq_true_eq] at h5
  obtain ⟨⟨⟨⟨⟨g1, g2⟩, g3⟩, g4⟩, g5⟩, g6⟩ := h5
  simp [Cond.before, Cond.holds, Cond.value, h1, h2, h3, h4, g1, g2, g3, g4, g5, g6]
def isCode : Jvm.Cond → Bool
  | .code _ _ _ _ => true
  | _ => false
theorem all_split {L : List Jvm.Cond} {P : Jvm.Cond → Bool} (h1 : L.all (fun c => isCode c || P c) = true) (h2 : ∀ c ∈ L.filter isCode, P c = true) : L.all P = true := by
  refine List.all_eq_true.mpr fun c hc => ?_
  have h := List.all_eq_true.mp h1 c hc
  rcases Bool.eq_false_or_eq_true (isCode c) with hi | hi
  · exact h2 c (List.mem_filter.mpr ⟨hc, hi⟩)
  · simpa [hi] using h
set_option maxRecDepth 65536 in
theorem w_c0 : (Jvm.Cond.code x code maxLocals ret).before args0 about1 = true := code_word (m := ⟨1, 1⟩) (meth := k1m1) (c := k1c1) (by decide +kernel) rfl rfl rfl (by decide +kernel)
set_option maxRecDepth 65536 in
theorem w_c1 : (Jvm.Cond.code ({ cls := "com/example/pipehat/pipehat/Text", name := "allocate", desc := "(J)[B" } : Jvm.MethodName) prog_55_method_7_code (2 : Nat) (Option.some (Jvm.ClassFile.FieldType.array Jvm.ClassFile.FieldType.byte))).before args0 about1 = true := code_word (m := ⟨2, 0⟩) (meth := k2m0) (c := k2c0) (by decide +kernel) rfl rfl rfl (by decide +kernel)
def codes1 : List Jvm.Cond := [Jvm.Cond.code x code maxLocals ret, Jvm.Cond.code ({ cls := "com/example/pipehat/pipehat/Text", name := "allocate", desc := "(J)[B" } : Jvm.MethodName) prog_55_method_7_code (2 : Nat) (Option.some (Jvm.ClassFile.FieldType.array Jvm.ClassFile.FieldType.byte))]
set_option maxRecDepth 65536 in
theorem codes_eq : words1.filter isCode = codes1 := rfl
theorem w_codes : ∀ c ∈ words1.filter isCode, c.before args0 about1 = true := by
  rw [codes_eq]
  intro c hc
  simp only [codes1, List.mem_cons, List.not_mem_nil, or_false] at hc
  rcases hc with rfl | rfl
  · exact w_c0
  · exact w_c1
set_option maxRecDepth 65536 in
theorem w_t1 : words1.all (fun c => isCode c || c.before args0 about1) = true := by decide +kernel
theorem w_tables : (allAtoms (Jvm.Cond.code x code maxLocals ret :: tables_1)).before args0 about1 = true := by
  rw [allAtoms_all]
  show words1.all (fun c => c.before args0 about1) = true
  refine all_split ?_ w_codes
  rw [w_t1]
set_option maxRecDepth 65536 in
theorem w_case : (Jvm.Cond.and given_1 narrow_1).before args0 about1 = true := by decide +kernel
theorem w_applies : (headSpec (Jvm.Cond.code x code maxLocals ret :: tables_1) room_1).applies x e0.platform about1 = true :=
  (Spec.applies_iff w_frames).mpr ⟨w_running, w_runnable, w_alone, w_named, w_hears, w_ripe, w_room, w_tables⟩
theorem atStart : AtStart classFile x code maxLocals ret World_1 tables_1 room_1 Calls_1 rest_1 Pre_1 launch0 p0 e0 about1 theMethod args0 below0 :=
  ⟨lists_1, trivial, launch0.admits_env _ _ _, launch0.least_env, fairChoices_fair.cas, fairChoices_fair.clock, w_frames, w_args, w_heap, w_applies, trivial, trivial, w_case⟩
end start1
theorem witness_1 : WitnessClaimed_1 := ⟨start1.p0, start1.e0, start1.about1, start1.theMethod, start1.args0, start1.below0, start1.atStart⟩
end Jvm.Pilot.@@N@@
