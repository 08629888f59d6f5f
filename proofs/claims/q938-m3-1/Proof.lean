import JvmDerived
import JvmDerived.Pilot.@@N@@Statement
import JvmDerived.Pilot.@@N@@Code
set_option linter.unusedVariables false
set_option linter.unusedSimpArgs false
namespace Jvm.RoadKit
open Sem ClassFile Op Lib Jvm.Stand Jvm.Free Jvm.LawKit
section New
variable {p : Program} {l : Launch} {e : Env} {R : Room} {s : State} {m : MethodId} {args : Array Value} {below : List Frame} {meth : Method} {c : Code} {T : State} {locs : List Loc} {cells slots : Nat}
theorem retI (X : Stand p l e R s m args below meth c T locs cells slots) (hx : p.tables.exec = Jvm.exec) {pc : Nat} {Ls : Array Slot} {z : Int32} {rest : List Value} (hret : meth.sig.returnType = some .int) (hd : decode c.code pc = .ok (.ireturn, 1)) {fs : List Frame}
    (hl : ∀ (f : JFrame) (acts : List Action), f.method = m → f.locked = none → f.entered = [] → (doReturn e (T.setTop f) acts (some (.int z))).1 = T.setFrames fs) : Steps p.tables e below (T.setTop (mkF m pc Ls (.int z :: rest))) (T.setFrames fs) := by
  have hm' : T.vm.method? m = some meth := X.method'
  have hn : narrow .int (.int z) = .int z := rfl
  show Steps p.tables e below (T.setTop { method := m, pc := pc, locals := Ls, stack := _ :: rest, locked := none }) _
  jvm_step X.here [X.here.top, hx, hd, hm', hret, hn]
  first | (intro acts; rw [hl _ acts rfl rfl rfl]) | rw [hl _ _ rfl rfl rfl]
  exact Steps.refl _
/-- the run from A ends, and P holds at the end -/
def own_Go (p : Program) (e : Env) (below : List Frame) (A : State) (P : State → Outcome → Prop) : Prop := ∃ s₂ o, Steps p.tables e below A s₂ ∧ s₂.status = .running ∧ Ended s₂ below o ∧ P s₂ o
theorem own_by {A B : State} {P : State → Outcome → Prop} (h : ∀ t, Steps p.tables e below B t → Steps p.tables e below A t) (g : own_Go p e below B P) : own_Go p e below A P := by
  obtain ⟨s2, o, h1, h2⟩ := g
  exact ⟨s2, o, h _ h1, h2⟩
theorem own_end (X : Stand p l e R s m args below meth c T locs cells slots) {v : Option Value} (hv : meth.sig.returnType = none → v = none) (hlk : meth.locks = false) {A : State} {Q : Option Value → Heap → List Loc → Prop} {k n : Nat}
    (hs : ∀ fs, (∀ (f : JFrame) (acts : List Action), f.method = m → f.locked = none → f.entered = [] → (doReturn e (T.setTop f) acts v).1 = T.setFrames fs) → Steps p.tables e below A (T.setFrames fs))
    (hq : Q v T.heap locs) (hk : cells ≤ k) (hn : slots ≤ n) : own_Go p e below A (fun t o => ∃ v L, o = .returned v ∧ Q v t.heap L ∧ FrameEnd s o t L k n) := by
  obtain ⟨fs, hr, hrun, hended, hW, hsame⟩ := X.leave (v := v) hv hlk
  exact ⟨_, _, hs fs hr, hrun, hended, _, _, rfl, hq, ⟨_, rfl⟩, hW, hsame.mono hk hn⟩
theorem own_endW {vm₁ : Vm} (X : Stand p l e R (s.setVm vm₁) m args below meth c T locs cells slots) {n0 : Nat} (hS : s.Since vm₁ n0) (hn0 : n0 ≤ T.heap.size) {v : Option Value} (hv : meth.sig.returnType = none → v = none) (hlk : meth.locks = false) {A : State} {Q : Option Value → Heap → List Loc → Prop} {k n : Nat}
    (hs : ∀ fs, (∀ (f : JFrame) (acts : List Action), f.method = m → f.locked = none → f.entered = [] → (doReturn e (T.setTop f) acts v).1 = T.setFrames fs) → Steps p.tables e below A (T.setFrames fs))
    (hq : Q v T.heap locs) (hk : cells ≤ k) (hn : slots ≤ n) : own_Go p e below A (fun t o => ∃ v L, o = .returned v ∧ Q v t.heap L ∧ ReturnedEndW s o t L k n) := by
  obtain ⟨fs, hr, hrun, hended, h1, h2, h3, h4⟩ := X.leaveW hS hn0 (v := v) hv hlk
  exact ⟨_, _, hs fs hr, hrun, hended, _, _, rfl, hq, h1, h2, h3, h4.mono hk hn⟩
theorem own_newPE {Z : State} {a0 : Array Value} {h : Heap} (X : Stand p l e R s m args below meth c T locs cells slots) (hx : p.tables.exec = Jvm.exec) (hZ : Z.Warmed39 s.vm) {aty : ArrayType} (w : (Cond.arrayClass (newarray.typeOf aty)).before a0 Z = true) (eT : T.heap = h) {g : JFrame} (hg : g.method = m) (hd : decode c.code g.pc = .ok (.newarray aty, 2)) {n : Int32} {rest : List Value} (hs : g.stack = .int n :: rest)
    (hn : ¬ n < 0) {cap : Nat} (hcap : n.toNatClampNeg ≤ cap) (hb : cap * 8 ≤ 536870912) (hc : cells + 1 ≤ R.cells) (hl : slots + cap ≤ R.slots) {ad : String} (had : "[" ++ (newarray.typeOf aty).toString = ad) :
    ∃ T' h' cA, Stand p l e R s m args below meth c T' locs (cells + 1) (slots + cap) ∧ T'.heap = h' ∧ Ext h h' ∧ Arr Z h' h.size (newA cA (newarray.typeOf aty) n) (newarray.typeOf aty) ∧ Exa Z h' h.size ad ∧
      ∀ target, Steps p.tables e below (T'.setTop { g with pc := g.pc + 2, stack := .ref h.size :: rest }) target → Steps p.tables e below (T.setTop g) target := by
  have hcb : componentBytes (newarray.typeOf aty) ≤ 8 := by cases aty <;> decide
  obtain ⟨cA, kA, comp, f1, f2, f3, Y, st⟩ := X.newarrayPrim hx (mvA hZ w) hg hd hs hn (Nat.le_trans (Nat.mul_le_mul hcap hcb) hb) hc (Nat.le_trans (Nat.add_le_add_left hcap _) hl)
  subst eT had
  have f1' : Z.vm.findClass ("[" ++ (newarray.typeOf aty).toString) = some cA := by rw [← hZ.alike.findClass]; exact f1
  obtain ⟨kZ, z1, -⟩ := Vm.findClass_spec f1'
  obtain ⟨k', z2, z3⟩ := hZ.alike.2.2 _ _ z1
  have ek : kA = k' := Option.some.inj (f2.symm.trans z2)
  have kd : kZ.kind = .array comp (newarray.typeOf aty) := by rw [← f3, ek, z3]
  have hN : (T.heap.push (newA cA (newarray.typeOf aty) n))[T.heap.size]? = some (newA cA (newarray.typeOf aty) n) := by simp
  refine ⟨_, _, cA, Y.more (Nat.le_refl _) (Nat.add_le_add_left hcap _), rfl, ext_of fun a q => ?_, ⟨hN, ⟨fun _ z => (by cases z), kZ, z1, comp, kd⟩, fun z => (by cases z)⟩, ⟨_, kZ, hN, f1', z1, rfl, fun ho => by rw [kd] at ho; cases ho⟩, st⟩
  exact (Array.getElem?_push_lt q).trans (Array.getElem?_eq_getElem q).symm
end New
section Arf
variable {Z : State} {h h' : Heap} {a b : Addr} {ty : FieldType} {n z : Int32} {f g : Nat → Value} {sl : Nat} {v : Value} {ws : List Addr} {k : ClassId}
/-- an array of n places, of which place i holds f i -/
def own_Arf (Z : State) (h : Heap) (a : Addr) (ty : FieldType) (n : Int32) (f : Nat → Value) : Prop := ∃ c : Cell, Arr Z h a c ty ∧ c.slots.size = n.toNatClampNeg ∧ ¬ n < 0 ∧ ∀ i, i < c.slots.size → c.slots[i]? = some (f i)
theorem own_Arf.lt (F : own_Arf Z h a ty n f) : a < h.size := by obtain ⟨c, A, -⟩ := F; exact A.lt
theorem own_Arf.ext (F : own_Arf Z h a ty n f) (E : Ext h h') : own_Arf Z h' a ty n f := by obtain ⟨c, A, r⟩ := F; exact ⟨c, A.ext E, r⟩
theorem own_Arf.other (F : own_Arf Z h b ty n f) (W : Wr h h' a sl v) (q : b ≠ a) : own_Arf Z h' b ty n f := by obtain ⟨c, A, r⟩ := F; exact ⟨c, A.other W q, r⟩
theorem own_Arf.keep (F : own_Arf Z h a ty n f) (K : Keep h h' ws) (q : a ∉ ws) : own_Arf Z h' a ty n f := by obtain ⟨c, A, r⟩ := F; exact ⟨c, ⟨K.2.1 a c A.1 q, A.2⟩, r⟩
theorem own_Arf.new (A : Arr Z h a (newA k ty z) ty) (q : ¬ z < 0) : own_Arf Z h a ty z (fun _ => defaultValue ty) := ⟨_, A, sz_new _ _ _, q, fun i hi => by
  rw [sz_new] at hi
  simp [newA, hi]⟩
theorem own_Arf.set (F : own_Arf Z h a ty n f) (W : Wr h h' a sl v) : own_Arf Z h' a ty n (fun i => if i = sl then v else f i) := by
  obtain ⟨c, A, S, N, H⟩ := F
  have hsl : sl < c.slots.size := by
    obtain ⟨c2, e1, -, e3, -⟩ := W
    cases A.1.symm.trans e1
    exact e3
  refine ⟨_, A.same W, by rw [sz_set]; exact S, N, fun i hi => ?_⟩
  rw [sz_set] at hi
  by_cases e : i = sl
  · subst e
    simp [Cell.setSlot, hi]
  · simp only [Cell.setSlot, if_neg e]
    rw [Array.getElem?_setIfInBounds_ne (Ne.symm e)]
    exact H i hi
theorem own_Arf.congr (F : own_Arf Z h a ty n f) (q : ∀ i, i < n.toNatClampNeg → f i = g i) : own_Arf Z h a ty n g := by
  obtain ⟨c, A, S, N, H⟩ := F
  exact ⟨c, A, S, N, fun i hi => by rw [← q i (by rw [← S]; exact hi)]; exact H i hi⟩
theorem own_Arf.at (F : own_Arf Z h a ty n f) {j : Int32} (q : ¬ j < 0 ∧ j < n) : ∃ c : Cell, Arr Z h a c ty ∧ ¬ (j < 0 ∨ c.slots.size ≤ j.toNatClampNeg) ∧ c.slots[j.toNatClampNeg]? = some (f j.toNatClampNeg) := by
  obtain ⟨c, A, S, N, H⟩ := F
  have hin := inb_of S q
  exact ⟨c, A, hin, H _ (Nat.lt_of_not_le fun y => hin (Or.inr y))⟩
theorem own_Arf.nn (F : own_Arf Z h a ty n f) : ¬ n < 0 := by obtain ⟨c, A, S, N, H⟩ := F; exact N
/-- an array of objects of the class C -/
def own_Ovr (Z : State) (h : Heap) (a : Addr) (C : String) : Prop := ∃ (c : Cell) (ty : FieldType), Arr Z h a c ty ∧ Ovr Z c.cls C
theorem own_Ovr.wr {C : String} (W : Wr h h' b sl v) (F : own_Ovr Z h a C) : own_Ovr Z h' a C := by
  obtain ⟨c, ty, A, O⟩ := F
  by_cases e : a = b
  · subst e; exact ⟨_, ty, A.same W, O⟩
  · exact ⟨c, ty, A.other W e, O⟩
theorem own_Ovr.ext {C : String} (F : own_Ovr Z h a C) (E : Ext h h') : own_Ovr Z h' a C := by obtain ⟨c, ty, A, O⟩ := F; exact ⟨c, ty, A.ext E, O⟩
theorem own_Ovr.sto {C : String} {y : Addr} (F : own_Ovr Z h a C) (I : Exa Z h y C) : Sto Z h a (.ref y) := by obtain ⟨c, ty, A, O⟩ := F; exact Sto.of A O (Ins.self I)
theorem own_selp {s : State} {a0 args : Array Value} {y : MethodName} {n : Nat} (hZ : Z.Warmed39 s.vm) (wi : (Cond.instantiable y.cls n).before a0 Z = true) (wn : (Cond.instanceMethod y).before a0 Z = true) (wp : (Cond.privateMethod y).before a0 Z = true) (hy : y.cls ≠ "java/lang/invoke/MethodHandle" ∧ y.cls ≠ "java/lang/invoke/VarHandle") : (Cond.selects y.cls y y).before args s = true := by
  obtain ⟨c2, k2, i1, i2, -, i4, -⟩ := Cond.instantiable_spec (mvT hZ wi : (Cond.instantiable y.cls n).before args s = true)
  simp only [Bool.or_eq_false_iff] at i4
  exact selects_self_of_private i1 i2 i4.1 (Cond.privateMethod_at (mvP hZ wp (args := args))) (mvT hZ wn) hy
theorem own_sta_keep {C n d : String} {w : Value} (F : Sta Z h C n d w) (K : Keep h h' []) : Sta Z h' C n d w := by
  obtain ⟨cf, i, k, f, st, cell, h1, h2, h3, h4, h5, h6⟩ := F
  exact ⟨cf, i, k, f, st, cell, h1, h2, h3, h4, K.2.1 _ _ h5 nin0, h6⟩
theorem own_ofNat_int {m : Nat} (h : m < 2 ^ 31) : (Int32.ofNat m).toInt = m := Int32.toInt_ofNat_of_lt h
theorem own_tn {m : Nat} (h : m < 2 ^ 31) : (Int32.ofNat m).toNatClampNeg = m := by
  show (Int32.ofNat m).toInt.toNat = m
  rw [own_ofNat_int h]; omega
theorem own_nn {m : Nat} (h : m < 2 ^ 31) : ¬ Int32.ofNat m < 0 := by
  rw [Int32.lt_iff_toInt_lt, own_ofNat_int h]; show ¬ (m : Int) < 0; omega
theorem own_ltN {i m : Nat} (h : i < m) (hm : m < 2 ^ 31) : Int32.ofNat i < Int32.ofNat m := by
  rw [Int32.lt_iff_toInt_lt, own_ofNat_int hm, own_ofNat_int (by omega)]; omega
theorem own_in {i m : Nat} (h : i < m) (hm : m < 2 ^ 31) : ¬ Int32.ofNat i < 0 ∧ Int32.ofNat i < Int32.ofNat m := ⟨own_nn (by omega), own_ltN h hm⟩
theorem own_injN {i m : Nat} (hi : i < 2 ^ 31) (hm : m < 2 ^ 31) (e : Int32.ofNat i = Int32.ofNat m) : i = m := by
  have := congrArg Int32.toInt e
  rw [own_ofNat_int hi, own_ofNat_int hm] at this; omega
theorem own_Arf.arv (F : own_Arf Z h a ty n f) (hf : ∀ i, i < n.toNatClampNeg → fits ty (f i) = true) (d : Value) : ∃ k, Arv Z h a k ty n ((List.range n.toNatClampNeg).map f) d := by
  obtain ⟨c, A, S, N, H⟩ := F
  have hg : ∀ i, i < n.toNatClampNeg → ((List.range n.toNatClampNeg).map f).getD i d = f i := fun i hi => by
    simp [List.getD, hi]
  refine ⟨c.cls, c, A, rfl, S, N, fun i hi => ?_, fun i hi => ?_⟩
  · rw [hg i (by rw [← S]; exact hi)]; exact H i hi
  · rw [hg i (by rw [← S]; exact hi)]; exact hf i (by rw [← S]; exact hi)
theorem own_Arf.of {vs : List Value} {d : Value} (F : Arv Z h a k ty n vs d) : own_Arf Z h a ty n (fun i => vs.getD i d) := by
  obtain ⟨c, A, -, S, N, H, -⟩ := F
  exact ⟨c, A, S, N, H⟩
end Arf
end Jvm.RoadKit
namespace Jvm.Pilot.@@N@@
open Jvm Jvm.ClassFile Sem Op Lib Jvm.Free Jvm.Stand Jvm.LawKit Jvm.RoadKit Bundle Jvm.Pilot.@@N@@.Jvm.D
theorem own_dloadN {tb : Tables} [Ours tb] {e : Env} {below : List Frame} {T target : State} {m : MethodId} {c : Code} {g : JFrame} (h : At T m c below) (hx : tb.exec = Jvm.exec) (hg : g.method = m) {k : Fin 4} {v : UInt64} (hd : decode c.code g.pc = .ok (.dload_n k, 1)) (hl : g.locals[k.val]? = some (.val (.double v)))
    (hr : Steps tb e below (T.setTop { g with pc := g.pc + 1, stack := .double v :: g.stack }) target) : Steps tb e below (T.setTop g) target := by
  subst hg
  jvm_step h [h.top, hx, hd, hl]
  exact hr
theorem own_dload {tb : Tables} [Ours tb] {e : Env} {below : List Frame} {T target : State} {m : MethodId} {c : Code} {g : JFrame} (h : At T m c below) (hx : tb.exec = Jvm.exec) (hg : g.method = m) {k : Nat} {v : UInt64} (hd : decode c.code g.pc = .ok (.dload k, 2)) (hl : g.locals[k]? = some (.val (.double v)))
    (hr : Steps tb e below (T.setTop { g with pc := g.pc + 2, stack := .double v :: g.stack }) target) : Steps tb e below (T.setTop g) target := by
  subst hg
  jvm_step h [h.top, hx, hd, hl]
  exact hr
theorem own_dstore {tb : Tables} [Ours tb] {e : Env} {below : List Frame} {T target : State} {m : MethodId} {c : Code} {g : JFrame} (h : At T m c below) (hx : tb.exec = Jvm.exec) (hg : g.method = m) {k : Nat} {x : UInt64} {rest : List Value} {l' : Array Slot} (hd : decode c.code g.pc = .ok (.dstore k, 2)) (hs : g.stack = .double x :: rest) (hl : storeLocals g.locals k (.double x) = some l')
    (hr : Steps tb e below (T.setTop { g with pc := g.pc + 2, stack := rest, locals := l' }) target) : Steps tb e below (T.setTop g) target := by
  subst hg
  jvm_step h [h.top, hx, hd, hs, hl]
  exact hr
theorem own_i2d {tb : Tables} [Ours tb] {e : Env} {below : List Frame} {T target : State} {m : MethodId} {c : Code} {g : JFrame} (h : At T m c below) (hx : tb.exec = Jvm.exec) (hg : g.method = m) {x : Int32} {rest : List Value} (hd : decode c.code g.pc = .ok (.i2d, 1)) (hs : g.stack = .int x :: rest)
    (hr : Steps tb e below (T.setTop { g with pc := g.pc + 1, stack := .double (FP.i2d x) :: rest }) target) : Steps tb e below (T.setTop g) target := by
  subst hg
  jvm_step h [h.top, hx, hd, hs]
  exact hr
theorem own_dneg {tb : Tables} [Ours tb] {e : Env} {below : List Frame} {T target : State} {m : MethodId} {c : Code} {g : JFrame} (h : At T m c below) (hx : tb.exec = Jvm.exec) (hg : g.method = m) {x : UInt64} {rest : List Value} (hd : decode c.code g.pc = .ok (.dneg, 1)) (hs : g.stack = .double x :: rest)
    (hr : Steps tb e below (T.setTop { g with pc := g.pc + 1, stack := .double (FP.dneg x) :: rest }) target) : Steps tb e below (T.setTop g) target := by
  subst hg
  jvm_step h [h.top, hx, hd, hs]
  exact hr
theorem own_dcmpl {tb : Tables} [Ours tb] {e : Env} {below : List Frame} {T target : State} {m : MethodId} {c : Code} {g : JFrame} (h : At T m c below) (hx : tb.exec = Jvm.exec) (hg : g.method = m) {x y : UInt64} {rest : List Value} (hd : decode c.code g.pc = .ok (.dcmp .l, 1)) (hs : g.stack = .double y :: .double x :: rest)
    (hr : Steps tb e below (T.setTop { g with pc := g.pc + 1, stack := .int (cmpValue (FP.dcmp x y) .l) :: rest }) target) : Steps tb e below (T.setTop g) target := by
  subst hg
  jvm_step h [h.top, hx, hd, hs, dcmp.wp_sem]
  exact hr
open Jvm.FP.Core in
/-- the double x is the whole number v -/
def own_Rep (x : UInt64) (v : Int) : Prop := ∃ s c q, val64 x = Jvm.FP.Core.Datum.fin s c q ∧ q ≤ 0 ∧ signed s c = v * 2 ^ (-q).toNat
open Jvm.FP.Core in
theorem own_rep_i2d (a : Int32) : own_Rep (FP.i2d a) a.toInt := by
  have hv := val64_i2d a
  have hb : a.toInt.natAbs ≤ 2147483648 := by have := rng32 a; omega
  generalize a.toInt = i at hv hb
  have e1 : Jvm.FP.Core.round b64 (Jvm.FP.Core.ofInt i) = Jvm.FP.Core.roundRatio b64 (decide (i < 0)) i.natAbs 1 0 := rfl
  rw [e1] at hv
  by_cases h0 : i = 0
  · subst h0
    have e : Jvm.FP.Core.roundRatio b64 (decide ((0 : Int) < 0)) (Int.natAbs 0) 1 0 = Jvm.FP.Core.Datum.fin false 0 b64.qmin := rfl
    rw [e] at hv
    exact ⟨false, 0, b64.qmin, hv, by decide, by rw [Int.zero_mul]; rfl⟩
  · have hn : i.natAbs ≠ 0 := by omega
    have l1 := Nat.log2_self_le hn
    have l2 := Nat.lt_log2_self (n := i.natAbs)
    have hk : i.natAbs.log2 ≤ 31 := by
      have : i.natAbs.log2 < 32 := (Nat.log2_lt hn).mpr (by omega)
      omega
    generalize hkk : i.natAbs.log2 = k at l1 l2 hk
    have p1 : 2 ^ k * 2 ^ (52 - k) = 2 ^ 52 := by rw [← Nat.pow_add]; congr 1; omega
    have p2 : 2 ^ (k + 1) * 2 ^ (52 - k) = 2 ^ 53 := by rw [← Nat.pow_add]; congr 1; omega
    have hpos : 0 < 2 ^ (52 - k) := Nat.two_pow_pos _
    have hfit : Jvm.FP.Core.fits b64 (Jvm.FP.Core.Datum.fin (decide (i < 0)) (i.natAbs * 2 ^ (52 - k)) ((k : Int) - 52)) := by
      refine ⟨?_, ?_, ?_, Or.inr ?_⟩
      · show i.natAbs * 2 ^ (52 - k) < 2 ^ 53
        rw [← p2]; exact Nat.mul_lt_mul_of_pos_right l2 hpos
      · show (-1074 : Int) ≤ (k : Int) - 52; omega
      · show (k : Int) - 52 ≤ (971 : Int); omega
      · show 2 ^ 52 ≤ i.natAbs * 2 ^ (52 - k)
        rw [← p1]; exact Nat.mul_le_mul_right _ l1
    have hr := roundRatio_exact good_b64 (s := decide (i < 0)) (A := i.natAbs) (B := 1) (e := 0) (by decide) hfit (by
      rw [show (0 - ((k : Int) - 52)).toNat = 52 - k by omega, show (((k : Int) - 52) - 0).toNat = 0 by omega]; simp)
    rw [hr] at hv
    refine ⟨_, _, _, hv, by omega, ?_⟩
    rw [show (-((k : Int) - 52)).toNat = 52 - k by omega]
    unfold signed
    by_cases hi : i < 0
    · simp only [hi, decide_true, if_true]
      rw [Int.natCast_mul, Int.natCast_pow, show ((i.natAbs : Nat) : Int) = -i by omega, Int.neg_mul, Int.neg_neg]; rfl
    · simp only [hi, decide_false]
      rw [if_neg (by decide), Int.natCast_mul, Int.natCast_pow, show ((i.natAbs : Nat) : Int) = i by omega]; rfl
open Jvm.FP.Core in
theorem own_neg_bits (x : UInt64) : (FP.dneg x).toNat = if x.toNat < 2 ^ 63 then x.toNat + 2 ^ 63 else x.toNat - 2 ^ 63 := by
  have hx := x.toNat_lt
  have e : (FP.dneg x).toNat = x.toNat ^^^ 2 ^ 63 := by unfold FP.dneg; rw [UInt64.toNat_xor]; rfl
  rw [e]
  have hd : (x.toNat ^^^ 2 ^ 63) / 2 ^ 63 = (x.toNat / 2 ^ 63) ^^^ 1 := by
    have := Nat.shiftRight_xor_distrib (a := x.toNat) (b := 2 ^ 63) (i := 63)
    simpa [Nat.shiftRight_eq_div_pow] using this
  have hm : (x.toNat ^^^ 2 ^ 63) % 2 ^ 63 = x.toNat % 2 ^ 63 := by
    have := Nat.xor_mod_two_pow (a := x.toNat) (b := 2 ^ 63) (n := 63)
    simpa using this
  have h2 : x.toNat / 2 ^ 63 = 0 ∨ x.toNat / 2 ^ 63 = 1 := by omega
  rcases h2 with q | q
  · rw [q] at hd; rw [if_pos (by omega)]; have : (0 ^^^ 1 : Nat) = 1 := rfl; omega
  · rw [q] at hd; rw [if_neg (by omega)]; have : (1 ^^^ 1 : Nat) = 0 := rfl; omega
open Jvm.FP.Core in
theorem own_rep_neg {x : UInt64} {v : Int} (h : own_Rep x v) : own_Rep (FP.dneg x) (-v) := by
  obtain ⟨s, c, q, h1, h2, h3⟩ := h
  have hb := own_neg_bits x
  have hx := x.toNat_lt
  have eT : fieldT b64 (FP.dneg x).toNat = fieldT b64 x.toNat := by
    show (FP.dneg x).toNat % 4503599627370496 = x.toNat % 4503599627370496
    rw [hb]; split <;> omega
  have eE : fieldE b64 (FP.dneg x).toNat = fieldE b64 x.toNat := by
    show (FP.dneg x).toNat / 4503599627370496 % 2048 = x.toNat / 4503599627370496 % 2048
    rw [hb]; split <;> omega
  have eS : fieldS b64 (FP.dneg x).toNat = !fieldS b64 x.toNat := by
    show ((FP.dneg x).toNat / 4503599627370496 / 2048 % 2 == 1) = !(x.toNat / 4503599627370496 / 2048 % 2 == 1)
    rw [hb]
    split
    · rw [show (x.toNat + 2 ^ 63) / 4503599627370496 / 2048 % 2 = 1 by omega, show x.toNat / 4503599627370496 / 2048 % 2 = 0 by omega]; rfl
    · rw [show (x.toNat - 2 ^ 63) / 4503599627370496 / 2048 % 2 = 0 by omega, show x.toNat / 4503599627370496 / 2048 % 2 = 1 by omega]; rfl
  have hv : val64 (FP.dneg x) = Jvm.FP.Core.Datum.fin (!s) c q := by
    unfold val64 at h1 ⊢
    unfold Jvm.FP.Core.decode at h1 ⊢
    rw [eT, eE, eS]
    split at h1
    · split at h1 <;> cases h1
    · split at h1 <;> (rename_i a1 a2; rw [if_neg a1]; (first | rw [if_pos a2] | rw [if_neg a2]); cases h1; rfl)
  refine ⟨!s, c, q, hv, h2, ?_⟩
  rw [Int.neg_mul, ← h3]
  unfold signed
  cases s <;> simp
open Jvm.FP.Core in
theorem own_rep_cmp {x y : UInt64} {v w : Int} (hx : own_Rep x v) (hy : own_Rep y w) : FP.dcmp x y = some (compare v w) := by
  obtain ⟨s, c, q, h1, h2, h3⟩ := hx
  obtain ⟨t, d, r, g1, g2, g3⟩ := hy
  have e : FP.dcmp x y = order (val64 x) (val64 y) := rfl
  rw [e, h1, g1]
  show some (compare (signed s (inUnits c q (min q r))) (signed t (inUnits d r (min q r)))) = _
  have k : ∀ (s : Bool) (c : Nat) (q m : Int) (v : Int), m ≤ q → q ≤ 0 → signed s c = v * 2 ^ (-q).toNat → signed s (inUnits c q m) = v * 2 ^ (-m).toNat := by
    intro s c q m v hm hq he
    have e1 : signed s (inUnits c q m) = signed s c * 2 ^ (q - m).toNat := by
      unfold signed inUnits
      cases s
      · simp only [Bool.false_eq_true, if_false]; rw [Int.natCast_mul, Int.natCast_pow]; rfl
      · simp only [if_true]; rw [Int.natCast_mul, Int.natCast_pow, Int.neg_mul]; rfl
    rw [e1, he, Int.mul_assoc, ← Int.pow_add]
    congr 2; omega
  rw [k s c q (min q r) v (by omega) h2 h3, k t d r (min q r) w (by omega) g2 g3]
  have hp : (0 : Int) < 2 ^ (-min q r).toNat := Int.pow_pos (by decide)
  congr 1
  generalize (2 : Int) ^ (-min q r).toNat = P at hp
  rcases Int.lt_trichotomy v w with h | h | h
  · have h' : v * P < w * P := Int.mul_lt_mul_of_pos_right h hp
    rw [Int.compare_eq_lt.mpr h, Int.compare_eq_lt.mpr h']
  · subst h; simp
  · have h' : w * P < v * P := Int.mul_lt_mul_of_pos_right h hp
    rw [Int.compare_eq_gt.mpr h, Int.compare_eq_gt.mpr h']
def own_cs (x y : UInt64) : Int32 := if cmpValue (FP.dcmp x y) .l = 0 then 0 else if (0 : Int32) < cmpValue (FP.dcmp x y) .l then -1 else 1
theorem own_cs_val {x y : UInt64} {la lb : Int64} (hx : own_Rep x la.toInt) (hy : own_Rep y lb.toInt) : own_cs x y = if (0 : Int32) < lcmpW la lb then -1 else if lcmpW la lb < (0 : Int32) then 1 else 0 := by
  unfold own_cs
  rw [own_rep_cmp hx hy]
  simp only [lw_gt, lw_lt, Int64.lt_iff_toInt_lt]
  rcases Int.lt_trichotomy la.toInt lb.toInt with h | h | h
  · rw [Int.compare_eq_lt.mpr h, if_neg (show ¬ lb.toInt < la.toInt by omega), if_pos h]; rfl
  · rw [h, if_neg (Int.lt_irrefl _), if_neg (Int.lt_irrefl _), Int.compare_eq_eq.mpr rfl]; rfl
  · rw [Int.compare_eq_gt.mpr h, if_pos h]; rfl
theorem own_negL (a : Int32) : (-a.toInt64).toInt = -a.toInt := by
  have h1 := c_lneg a.toInt64
  have h2 := c_i2l a
  have h3 := rng64 (-a.toInt64)
  have h4 := rng32 a
  omega
theorem own_repP (a : Int32) : own_Rep (FP.i2d a) (a.toInt64).toInt := by rw [c_i2l]; exact own_rep_i2d a
theorem own_repN (a : Int32) : own_Rep (FP.dneg (FP.i2d a)) (-a.toInt64).toInt := by rw [own_negL]; exact own_rep_neg (own_rep_i2d a)
theorem d1_0 : decode prog_37_method_6_code 0 = .ok (.dload_n 0, 1) := by decide +kernel
theorem d1_1 : decode prog_37_method_6_code 1 = .ok (.dload_n 2, 1) := by decide +kernel
theorem d1_2 : decode prog_37_method_6_code 2 = .ok (.dcmp .l, 1) := by decide +kernel
theorem d1_3 : decode prog_37_method_6_code 3 = .ok (.ifCond .ne 5, 3) := by decide +kernel
theorem d1_6 : decode prog_37_method_6_code 6 = .ok (.iconst 0, 1) := by decide +kernel
theorem d1_7 : decode prog_37_method_6_code 7 = .ok (.ireturn, 1) := by decide +kernel
theorem d1_8 : decode prog_37_method_6_code 8 = .ok (.dload_n 0, 1) := by decide +kernel
theorem d1_9 : decode prog_37_method_6_code 9 = .ok (.dload_n 2, 1) := by decide +kernel
theorem d1_10 : decode prog_37_method_6_code 10 = .ok (.dcmp .l, 1) := by decide +kernel
theorem d1_11 : decode prog_37_method_6_code 11 = .ok (.ifCond .le 7, 3) := by decide +kernel
theorem d1_14 : decode prog_37_method_6_code 14 = .ok (.iconst (-1), 1) := by decide +kernel
theorem d1_15 : decode prog_37_method_6_code 15 = .ok (.goto 4, 3) := by decide +kernel
theorem d1_18 : decode prog_37_method_6_code 18 = .ok (.iconst 1, 1) := by decide +kernel
theorem d1_19 : decode prog_37_method_6_code 19 = .ok (.ireturn, 1) := by decide +kernel
theorem own_pn0 : plainName "com/example/surrogate/surrogate/search/Hit" = true := by first | (simp [plainName, overriddenIn]; done) | decide +kernel
theorem ef_rm1 (m : MethodId) (x0 : UInt64) (x1 : UInt64) : entryFrame m #[(.double x0), (.double x1)] 4 = mkF m 0 #[.val (.double x0), .second, .val (.double x1), .second] [] := by first | (simp [entryFrame, mkF, argsToLocals, Value.category]; done) | rfl
def Q_rm1 (Z : State) (x : UInt64) (y : UInt64) (h0 : Heap) (n0 : Nat) (v : Option Value) (h : Heap) (L : List Loc) : Prop := v = some (.int (own_cs x y)) ∧ Fr n0 L ∧ h = h0
set_option maxRecDepth 65536 in
set_option maxHeartbeats 40000000 in
theorem rm1 (l : Launch) (Z : State) (a0 : Array Value) (hw : ∀ d ∈ tables_1, d.before a0 Z = true) (ws : List Jvm.Cond) (x : UInt64) (y : UInt64) (h0 : Heap) (n0 : Nat) (Z0 : n0 ≤ h0.size)  :
    MetFree l (⟨"com/example/surrogate/surrogate/search/Hit", "compareScores", "(DD)I"⟩ : MethodName) (head1 (Jvm.Cond.code (⟨"com/example/surrogate/surrogate/search/Hit", "compareScores", "(DD)I"⟩ : MethodName) prog_37_method_6_code 4 (some .int) :: ws) ({ frames := 0, cells := 0, slots := 0, locals := 0 } : Room)) (fun a U => a = #[(.double x), (.double y)] ∧ Z.Warmed39 U.vm ∧ U.heap = h0) (fun _ _ _ _ _ => True) (fun _ U o U' => ∃ v L, o = .returned v ∧ Q_rm1 Z x y h0 n0 v U'.heap L ∧ FrameEnd U o U' L ({ frames := 0, cells := 0, slots := 0, locals := 0 } : Room).cells ({ frames := 0, cells := 0, slots := 0, locals := 0 } : Room).slots) := by
  refine MetFree.of_bodySF (plainFor_of_name own_pn0) hisR ?_
  intro p e s m args below meth c s₁ Bd hml0 hP hK
  obtain ⟨rfl, hZ, hh⟩ := hP
  have hx := Bd.exec
  have hby := Bd.bytes
  have hml : c.maxLocals = 4 := hml0
  have hown : s.vm.findClass "com/example/surrogate/surrogate/search/Hit" = some m.cls := findClass_of_methodNamed Bd.named
  have hnm := (name_of_methodNamed Bd.named Bd.method).1
  have X0 : Stand p l e ({ frames := 0, cells := 0, slots := 0, locals := 0 } : Room) s m #[(.double x), (.double y)] below meth c s₁ [] 0 0 := Stand.of_body Bd
  have e0 : s₁.heap = h0 := by rw [← hh, Bd.state]; rfl
  show own_Go p e below (s₁.setTop (entryFrame m #[(.double x), (.double y)] 4)) (fun t o => ∃ v L, o = .returned v ∧ Q_rm1 Z x y h0 n0 v t.heap L ∧ FrameEnd s o t L ({ frames := 0, cells := 0, slots := 0, locals := 0 } : Room).cells ({ frames := 0, cells := 0, slots := 0, locals := 0 } : Room).slots)
  refine own_by (B := s₁.setTop (mkF m 0 #[.val (.double x), .second, .val (.double y), .second] [])) (fun t k => castTop (ef_rm1 m x y) k) ?_
  have Nf := Fr.nil n0
  have Zs := Z0
  refine own_by (B := s₁.setTop (mkF m 1 #[.val (.double x), .second, .val (.double y), .second] [(.double x)])) (fun t k => own_dloadN X0.here hx rfl (hb hby d1_0) rfl k) ?_
  refine own_by (B := s₁.setTop (mkF m 2 #[.val (.double x), .second, .val (.double y), .second] [(.double y), (.double x)])) (fun t k => own_dloadN X0.here hx rfl (hb hby d1_1) rfl k) ?_
  refine own_by (B := s₁.setTop (mkF m 3 #[.val (.double x), .second, .val (.double y), .second] [(.int (cmpValue (FP.dcmp x y) .l))])) (fun t k => own_dcmpl X0.here hx rfl (hb hby d1_2) rfl k) ?_
  by_cases hc3 : (cmpValue (FP.dcmp x y) .l) = (0 : Int32)
  · refine own_by (B := s₁.setTop (mkF m 6 #[.val (.double x), .second, .val (.double y), .second] [])) (fun t k => XS.ifNo X0.here hx rfl (hb hby d1_3) rfl ((if0 _ _).trans (teq hc3).2) k) ?_
    refine own_by (B := s₁.setTop (mkF m 7 #[.val (.double x), .second, .val (.double y), .second] [(.int (0 : Int32))])) (fun t k => XS.iconst X0.here hx rfl (hb hby d1_6) k) ?_
    exact own_end X0 (v := some (.int (0 : Int32))) (fun h => by rw [Bd.returns] at h; cases h) (BodyLoose.notSynchronized Bd) (Q := (Q_rm1 Z x y h0 n0)) (fun fs hr => retI X0 hx Bd.returns (hb hby d1_7) hr) (show (Q_rm1 Z x y h0 n0) _ s₁.heap _ from (by rw [e0]; exact ⟨congrArg (fun z => some (Value.int z)) (by simp [own_cs, hc3]), Nf, rfl⟩)) (by decide) (by decide)
  · refine own_by (B := s₁.setTop (mkF m 8 #[.val (.double x), .second, .val (.double y), .second] [])) (fun t k => XS.ifYes X0.here hx rfl (pc0 := 3) (pc' := 8) rfl (hb hby d1_3) rfl ((if0 _ _).trans (feq hc3).2) (by decide) (by decide) k) ?_
    refine own_by (B := s₁.setTop (mkF m 9 #[.val (.double x), .second, .val (.double y), .second] [(.double x)])) (fun t k => own_dloadN X0.here hx rfl (hb hby d1_8) rfl k) ?_
    refine own_by (B := s₁.setTop (mkF m 10 #[.val (.double x), .second, .val (.double y), .second] [(.double y), (.double x)])) (fun t k => own_dloadN X0.here hx rfl (hb hby d1_9) rfl k) ?_
    refine own_by (B := s₁.setTop (mkF m 11 #[.val (.double x), .second, .val (.double y), .second] [(.int (cmpValue (FP.dcmp x y) .l))])) (fun t k => own_dcmpl X0.here hx rfl (hb hby d1_10) rfl k) ?_
    by_cases hc11 : (0 : Int32) < (cmpValue (FP.dcmp x y) .l)
    · refine own_by (B := s₁.setTop (mkF m 14 #[.val (.double x), .second, .val (.double y), .second] [])) (fun t k => XS.ifNo X0.here hx rfl (hb hby d1_11) rfl ((if0 _ _).trans (tlt hc11).2.2.2) k) ?_
      refine own_by (B := s₁.setTop (mkF m 15 #[.val (.double x), .second, .val (.double y), .second] [(.int (-1 : Int32))])) (fun t k => XS.iconst X0.here hx rfl (hb hby d1_14) k) ?_
      refine own_by (B := s₁.setTop (mkF m 19 #[.val (.double x), .second, .val (.double y), .second] [(.int (-1 : Int32))])) (fun t k => XS.goto X0.here hx rfl (pc0 := 15) (pc' := 19) rfl (hb hby d1_15) (by decide) (by decide) k) ?_
      exact own_end X0 (v := some (.int (-1 : Int32))) (fun h => by rw [Bd.returns] at h; cases h) (BodyLoose.notSynchronized Bd) (Q := (Q_rm1 Z x y h0 n0)) (fun fs hr => retI X0 hx Bd.returns (hb hby d1_19) hr) (show (Q_rm1 Z x y h0 n0) _ s₁.heap _ from (by rw [e0]; exact ⟨congrArg (fun z => some (Value.int z)) (by simp [own_cs, hc3, hc11]), Nf, rfl⟩)) (by decide) (by decide)
    · refine own_by (B := s₁.setTop (mkF m 18 #[.val (.double x), .second, .val (.double y), .second] [])) (fun t k => XS.ifYes X0.here hx rfl (pc0 := 11) (pc' := 18) rfl (hb hby d1_11) rfl ((if0 _ _).trans (flt hc11).2.2.2) (by decide) (by decide) k) ?_
      refine own_by (B := s₁.setTop (mkF m 19 #[.val (.double x), .second, .val (.double y), .second] [(.int (1 : Int32))])) (fun t k => XS.iconst X0.here hx rfl (hb hby d1_18) k) ?_
      exact own_end X0 (v := some (.int (1 : Int32))) (fun h => by rw [Bd.returns] at h; cases h) (BodyLoose.notSynchronized Bd) (Q := (Q_rm1 Z x y h0 n0)) (fun fs hr => retI X0 hx Bd.returns (hb hby d1_19) hr) (show (Q_rm1 Z x y h0 n0) _ s₁.heap _ from (by rw [e0]; exact ⟨congrArg (fun z => some (Value.int z)) (by simp [own_cs, hc3, hc11]), Nf, rfl⟩)) (by decide) (by decide)
theorem own_pd0 : parseMethodDescriptor "(DD)I" = some ⟨[.double, .double], some .int⟩ := by decide +kernel
theorem own_pn1 : plainName "com/example/surrogate/surrogate/search/HitCompareScoresPinLaw" = true := by first | (simp [plainName, overriddenIn]; done) | decide +kernel
theorem ef_rm0 (m : MethodId) (x0 : Int32) (x1 : Int32) (x2 : Int32) : entryFrame m #[(.int x0), (.int x1), (.int x2)] maxLocals = mkF m 0 #[.val (.int x0), .val (.int x1), .val (.int x2), .unset, .unset, .unset, .unset, .unset, .unset, .unset, .unset, .unset, .unset, .unset] [] := by first | (simp [entryFrame, mkF, argsToLocals, Value.category, maxLocals]; done) | rfl
def Q_rm0 (Z : State) (i0 : Int32) (i1 : Int32) (i2 : Int32) (h0 : Heap) (n0 : Nat) (v : Option Value) (h : Heap) (L : List Loc) : Prop := v = some (.int 1) ∧ Fr n0 L
set_option maxRecDepth 65536 in
set_option maxHeartbeats 40000000 in
theorem rm0 (l : Launch) (Z : State) (a0 : Array Value) (hw : ∀ d ∈ tables_1, d.before a0 Z = true) (ws : List Jvm.Cond) (i0 : Int32) (i1 : Int32) (i2 : Int32) (h0 : Heap) (n0 : Nat) (Z0 : n0 ≤ h0.size)  :
    MetFree l x (head1 (Jvm.Cond.code x code maxLocals ret :: ws) room_1) (fun a U => a = #[(.int i0), (.int i1), (.int i2)] ∧ Z.Warmed39 U.vm ∧ U.heap = h0) (fun _ _ _ _ _ => True) (fun _ U o U' => ∃ v L, o = .returned v ∧ Q_rm0 Z i0 i1 i2 h0 n0 v U'.heap L ∧ FrameEnd U o U' L room_1.cells room_1.slots) := by
  refine MetFree.of_bodySF (plainFor_of_name own_pn1) hisR ?_
  intro p e s m args below meth c s₁ Bd hml0 hP hK
  obtain ⟨rfl, hZ, hh⟩ := hP
  have hx := Bd.exec
  have hby := Bd.bytes
  have hml : c.maxLocals = 14 := hml0
  have hown : s.vm.findClass "com/example/surrogate/surrogate/search/HitCompareScoresPinLaw" = some m.cls := findClass_of_methodNamed Bd.named
  have hnm := (name_of_methodNamed Bd.named Bd.method).1
  have X0 : Stand p l e room_1 s m #[(.int i0), (.int i1), (.int i2)] below meth c s₁ [] 0 0 := Stand.of_body Bd
  have e0 : s₁.heap = h0 := by rw [← hh, Bd.state]; rfl
  show own_Go p e below (s₁.setTop (entryFrame m #[(.int i0), (.int i1), (.int i2)] maxLocals)) (fun t o => ∃ v L, o = .returned v ∧ Q_rm0 Z i0 i1 i2 h0 n0 v t.heap L ∧ FrameEnd s o t L room_1.cells room_1.slots)
  refine own_by (B := s₁.setTop (mkF m 0 #[.val (.int i0), .val (.int i1), .val (.int i2), .unset, .unset, .unset, .unset, .unset, .unset, .unset, .unset, .unset, .unset, .unset] [])) (fun t k => castTop (ef_rm0 m i0 i1 i2) k) ?_
  have Nf := Fr.nil n0
  have Zs := Z0
  refine own_by (B := s₁.setTop (mkF m 1 #[.val (.int i0), .val (.int i1), .val (.int i2), .unset, .unset, .unset, .unset, .unset, .unset, .unset, .unset, .unset, .unset, .unset] [(.int i2)])) (fun t k => XS.iloadN X0.here hx rfl (hb hby at_0) rfl k) ?_
  refine own_by (B := s₁.setTop (mkF m 2 #[.val (.int i0), .val (.int i1), .val (.int i2), .unset, .unset, .unset, .unset, .unset, .unset, .unset, .unset, .unset, .unset, .unset] [(.int (1 : Int32)), (.int i2)])) (fun t k => XS.iconst X0.here hx rfl (hb hby at_1) k) ?_
  refine own_by (B := s₁.setTop (mkF m 3 #[.val (.int i0), .val (.int i1), .val (.int i2), .unset, .unset, .unset, .unset, .unset, .unset, .unset, .unset, .unset, .unset, .unset] [(.int (i2 &&& (1 : Int32)))])) (fun t k => XS.iand X0.here hx rfl (hb hby at_2) rfl k) ?_
  by_cases hc3 : (i2 &&& (1 : Int32)) = (0 : Int32)
  · refine own_by (B := s₁.setTop (mkF m 10 #[.val (.int i0), .val (.int i1), .val (.int i2), .unset, .unset, .unset, .unset, .unset, .unset, .unset, .unset, .unset, .unset, .unset] [])) (fun t k => XS.ifYes X0.here hx rfl (pc0 := 3) (pc' := 10) rfl (hb hby at_3) rfl ((if0 _ _).trans (teq hc3).1) (by decide) (by decide) k) ?_
    refine own_by (B := s₁.setTop (mkF m 11 #[.val (.int i0), .val (.int i1), .val (.int i2), .unset, .unset, .unset, .unset, .unset, .unset, .unset, .unset, .unset, .unset, .unset] [(.int (0 : Int32))])) (fun t k => XS.iconst X0.here hx rfl (hb hby at_10) k) ?_
    refine own_by (B := s₁.setTop (mkF m 12 #[.val (.int i0), .val (.int i1), .val (.int i2), .val (.int (0 : Int32)), .unset, .unset, .unset, .unset, .unset, .unset, .unset, .unset, .unset, .unset] [])) (fun t k => XS.istoreN X0.here hx rfl (hb hby at_11) rfl (l' := #[.val (.int i0), .val (.int i1), .val (.int i2), .val (.int (0 : Int32)), .unset, .unset, .unset, .unset, .unset, .unset, .unset, .unset, .unset, .unset]) rfl k) ?_
    refine own_by (B := s₁.setTop (mkF m 13 #[.val (.int i0), .val (.int i1), .val (.int i2), .val (.int (0 : Int32)), .unset, .unset, .unset, .unset, .unset, .unset, .unset, .unset, .unset, .unset] [(.int i2)])) (fun t k => XS.iloadN X0.here hx rfl (hb hby at_12) rfl k) ?_
    refine own_by (B := s₁.setTop (mkF m 14 #[.val (.int i0), .val (.int i1), .val (.int i2), .val (.int (0 : Int32)), .unset, .unset, .unset, .unset, .unset, .unset, .unset, .unset, .unset, .unset] [(.int (2 : Int32)), (.int i2)])) (fun t k => XS.iconst X0.here hx rfl (hb hby at_13) k) ?_
    refine own_by (B := s₁.setTop (mkF m 15 #[.val (.int i0), .val (.int i1), .val (.int i2), .val (.int (0 : Int32)), .unset, .unset, .unset, .unset, .unset, .unset, .unset, .unset, .unset, .unset] [(.int (i2 &&& (2 : Int32)))])) (fun t k => XS.iand X0.here hx rfl (hb hby at_14) rfl k) ?_
    by_cases hc15 : (i2 &&& (2 : Int32)) = (0 : Int32)
    · refine own_by (B := s₁.setTop (mkF m 22 #[.val (.int i0), .val (.int i1), .val (.int i2), .val (.int (0 : Int32)), .unset, .unset, .unset, .unset, .unset, .unset, .unset, .unset, .unset, .unset] [])) (fun t k => XS.ifYes X0.here hx rfl (pc0 := 15) (pc' := 22) rfl (hb hby at_15) rfl ((if0 _ _).trans (teq hc15).1) (by decide) (by decide) k) ?_
      refine own_by (B := s₁.setTop (mkF m 23 #[.val (.int i0), .val (.int i1), .val (.int i2), .val (.int (0 : Int32)), .unset, .unset, .unset, .unset, .unset, .unset, .unset, .unset, .unset, .unset] [(.int (0 : Int32))])) (fun t k => XS.iconst X0.here hx rfl (hb hby at_22) k) ?_
      refine own_by (B := s₁.setTop (mkF m 25 #[.val (.int i0), .val (.int i1), .val (.int i2), .val (.int (0 : Int32)), .val (.int (0 : Int32)), .unset, .unset, .unset, .unset, .unset, .unset, .unset, .unset, .unset] [])) (fun t k => XS.istore X0.here hx rfl (hb hby at_23) rfl (l' := #[.val (.int i0), .val (.int i1), .val (.int i2), .val (.int (0 : Int32)), .val (.int (0 : Int32)), .unset, .unset, .unset, .unset, .unset, .unset, .unset, .unset, .unset]) rfl k) ?_
      refine own_by (B := s₁.setTop (mkF m 26 #[.val (.int i0), .val (.int i1), .val (.int i2), .val (.int (0 : Int32)), .val (.int (0 : Int32)), .unset, .unset, .unset, .unset, .unset, .unset, .unset, .unset, .unset] [(.int (0 : Int32))])) (fun t k => XS.iloadN X0.here hx rfl (hb hby at_25) rfl k) ?_
      refine own_by (B := s₁.setTop (mkF m 35 #[.val (.int i0), .val (.int i1), .val (.int i2), .val (.int (0 : Int32)), .val (.int (0 : Int32)), .unset, .unset, .unset, .unset, .unset, .unset, .unset, .unset, .unset] [])) (fun t k => XS.ifYes X0.here hx rfl (pc0 := 26) (pc' := 35) rfl (hb hby at_26) rfl ((if0 _ _).trans (teq (by decide)).1) (by decide) (by decide) k) ?_
      refine own_by (B := s₁.setTop (mkF m 36 #[.val (.int i0), .val (.int i1), .val (.int i2), .val (.int (0 : Int32)), .val (.int (0 : Int32)), .unset, .unset, .unset, .unset, .unset, .unset, .unset, .unset, .unset] [(.int i0)])) (fun t k => XS.iloadN X0.here hx rfl (hb hby at_35) rfl k) ?_
      refine own_by (B := s₁.setTop (mkF m 37 #[.val (.int i0), .val (.int i1), .val (.int i2), .val (.int (0 : Int32)), .val (.int (0 : Int32)), .unset, .unset, .unset, .unset, .unset, .unset, .unset, .unset, .unset] [(.long (i0.toInt64))])) (fun t k => XS.i2l X0.here hx rfl (hb hby at_36) rfl k) ?_
      refine own_by (B := s₁.setTop (mkF m 39 #[.val (.int i0), .val (.int i1), .val (.int i2), .val (.int (0 : Int32)), .val (.int (0 : Int32)), .val (.long (i0.toInt64)), .second, .unset, .unset, .unset, .unset, .unset, .unset, .unset] [])) (fun t k => XS.lstore X0.here hx rfl (hb hby at_37) rfl (l' := #[.val (.int i0), .val (.int i1), .val (.int i2), .val (.int (0 : Int32)), .val (.int (0 : Int32)), .val (.long (i0.toInt64)), .second, .unset, .unset, .unset, .unset, .unset, .unset, .unset]) rfl k) ?_
      refine own_by (B := s₁.setTop (mkF m 41 #[.val (.int i0), .val (.int i1), .val (.int i2), .val (.int (0 : Int32)), .val (.int (0 : Int32)), .val (.long (i0.toInt64)), .second, .unset, .unset, .unset, .unset, .unset, .unset, .unset] [(.int (0 : Int32))])) (fun t k => XS.iload X0.here hx rfl (hb hby at_39) rfl k) ?_
      refine own_by (B := s₁.setTop (mkF m 50 #[.val (.int i0), .val (.int i1), .val (.int i2), .val (.int (0 : Int32)), .val (.int (0 : Int32)), .val (.long (i0.toInt64)), .second, .unset, .unset, .unset, .unset, .unset, .unset, .unset] [])) (fun t k => XS.ifYes X0.here hx rfl (pc0 := 41) (pc' := 50) rfl (hb hby at_41) rfl ((if0 _ _).trans (teq (by decide)).1) (by decide) (by decide) k) ?_
      refine own_by (B := s₁.setTop (mkF m 51 #[.val (.int i0), .val (.int i1), .val (.int i2), .val (.int (0 : Int32)), .val (.int (0 : Int32)), .val (.long (i0.toInt64)), .second, .unset, .unset, .unset, .unset, .unset, .unset, .unset] [(.int i1)])) (fun t k => XS.iloadN X0.here hx rfl (hb hby at_50) rfl k) ?_
      refine own_by (B := s₁.setTop (mkF m 52 #[.val (.int i0), .val (.int i1), .val (.int i2), .val (.int (0 : Int32)), .val (.int (0 : Int32)), .val (.long (i0.toInt64)), .second, .unset, .unset, .unset, .unset, .unset, .unset, .unset] [(.long (i1.toInt64))])) (fun t k => XS.i2l X0.here hx rfl (hb hby at_51) rfl k) ?_
      refine own_by (B := s₁.setTop (mkF m 54 #[.val (.int i0), .val (.int i1), .val (.int i2), .val (.int (0 : Int32)), .val (.int (0 : Int32)), .val (.long (i0.toInt64)), .second, .val (.long (i1.toInt64)), .second, .unset, .unset, .unset, .unset, .unset] [])) (fun t k => XS.lstore X0.here hx rfl (hb hby at_52) rfl (l' := #[.val (.int i0), .val (.int i1), .val (.int i2), .val (.int (0 : Int32)), .val (.int (0 : Int32)), .val (.long (i0.toInt64)), .second, .val (.long (i1.toInt64)), .second, .unset, .unset, .unset, .unset, .unset]) rfl k) ?_
      refine own_by (B := s₁.setTop (mkF m 55 #[.val (.int i0), .val (.int i1), .val (.int i2), .val (.int (0 : Int32)), .val (.int (0 : Int32)), .val (.long (i0.toInt64)), .second, .val (.long (i1.toInt64)), .second, .unset, .unset, .unset, .unset, .unset] [(.int (0 : Int32))])) (fun t k => XS.iloadN X0.here hx rfl (hb hby at_54) rfl k) ?_
      refine own_by (B := s₁.setTop (mkF m 64 #[.val (.int i0), .val (.int i1), .val (.int i2), .val (.int (0 : Int32)), .val (.int (0 : Int32)), .val (.long (i0.toInt64)), .second, .val (.long (i1.toInt64)), .second, .unset, .unset, .unset, .unset, .unset] [])) (fun t k => XS.ifYes X0.here hx rfl (pc0 := 55) (pc' := 64) rfl (hb hby at_55) rfl ((if0 _ _).trans (teq (by decide)).1) (by decide) (by decide) k) ?_
      refine own_by (B := s₁.setTop (mkF m 65 #[.val (.int i0), .val (.int i1), .val (.int i2), .val (.int (0 : Int32)), .val (.int (0 : Int32)), .val (.long (i0.toInt64)), .second, .val (.long (i1.toInt64)), .second, .unset, .unset, .unset, .unset, .unset] [(.int i0)])) (fun t k => XS.iloadN X0.here hx rfl (hb hby at_64) rfl k) ?_
      refine own_by (B := s₁.setTop (mkF m 66 #[.val (.int i0), .val (.int i1), .val (.int i2), .val (.int (0 : Int32)), .val (.int (0 : Int32)), .val (.long (i0.toInt64)), .second, .val (.long (i1.toInt64)), .second, .unset, .unset, .unset, .unset, .unset] [(.double (FP.i2d i0))])) (fun t k => own_i2d X0.here hx rfl (hb hby at_65) rfl k) ?_
      refine own_by (B := s₁.setTop (mkF m 68 #[.val (.int i0), .val (.int i1), .val (.int i2), .val (.int (0 : Int32)), .val (.int (0 : Int32)), .val (.long (i0.toInt64)), .second, .val (.long (i1.toInt64)), .second, .val (.double (FP.i2d i0)), .second, .unset, .unset, .unset] [])) (fun t k => own_dstore X0.here hx rfl (hb hby at_66) rfl (l' := #[.val (.int i0), .val (.int i1), .val (.int i2), .val (.int (0 : Int32)), .val (.int (0 : Int32)), .val (.long (i0.toInt64)), .second, .val (.long (i1.toInt64)), .second, .val (.double (FP.i2d i0)), .second, .unset, .unset, .unset]) rfl k) ?_
      refine own_by (B := s₁.setTop (mkF m 70 #[.val (.int i0), .val (.int i1), .val (.int i2), .val (.int (0 : Int32)), .val (.int (0 : Int32)), .val (.long (i0.toInt64)), .second, .val (.long (i1.toInt64)), .second, .val (.double (FP.i2d i0)), .second, .unset, .unset, .unset] [(.int (0 : Int32))])) (fun t k => XS.iload X0.here hx rfl (hb hby at_68) rfl k) ?_
      refine own_by (B := s₁.setTop (mkF m 79 #[.val (.int i0), .val (.int i1), .val (.int i2), .val (.int (0 : Int32)), .val (.int (0 : Int32)), .val (.long (i0.toInt64)), .second, .val (.long (i1.toInt64)), .second, .val (.double (FP.i2d i0)), .second, .unset, .unset, .unset] [])) (fun t k => XS.ifYes X0.here hx rfl (pc0 := 70) (pc' := 79) rfl (hb hby at_70) rfl ((if0 _ _).trans (teq (by decide)).1) (by decide) (by decide) k) ?_
      refine own_by (B := s₁.setTop (mkF m 80 #[.val (.int i0), .val (.int i1), .val (.int i2), .val (.int (0 : Int32)), .val (.int (0 : Int32)), .val (.long (i0.toInt64)), .second, .val (.long (i1.toInt64)), .second, .val (.double (FP.i2d i0)), .second, .unset, .unset, .unset] [(.int i1)])) (fun t k => XS.iloadN X0.here hx rfl (hb hby at_79) rfl k) ?_
      refine own_by (B := s₁.setTop (mkF m 81 #[.val (.int i0), .val (.int i1), .val (.int i2), .val (.int (0 : Int32)), .val (.int (0 : Int32)), .val (.long (i0.toInt64)), .second, .val (.long (i1.toInt64)), .second, .val (.double (FP.i2d i0)), .second, .unset, .unset, .unset] [(.double (FP.i2d i1))])) (fun t k => own_i2d X0.here hx rfl (hb hby at_80) rfl k) ?_
      refine own_by (B := s₁.setTop (mkF m 83 #[.val (.int i0), .val (.int i1), .val (.int i2), .val (.int (0 : Int32)), .val (.int (0 : Int32)), .val (.long (i0.toInt64)), .second, .val (.long (i1.toInt64)), .second, .val (.double (FP.i2d i0)), .second, .val (.double (FP.i2d i1)), .second, .unset] [])) (fun t k => own_dstore X0.here hx rfl (hb hby at_81) rfl (l' := #[.val (.int i0), .val (.int i1), .val (.int i2), .val (.int (0 : Int32)), .val (.int (0 : Int32)), .val (.long (i0.toInt64)), .second, .val (.long (i1.toInt64)), .second, .val (.double (FP.i2d i0)), .second, .val (.double (FP.i2d i1)), .second, .unset]) rfl k) ?_
      refine own_by (B := s₁.setTop (mkF m 85 #[.val (.int i0), .val (.int i1), .val (.int i2), .val (.int (0 : Int32)), .val (.int (0 : Int32)), .val (.long (i0.toInt64)), .second, .val (.long (i1.toInt64)), .second, .val (.double (FP.i2d i0)), .second, .val (.double (FP.i2d i1)), .second, .unset] [(.double (FP.i2d i0))])) (fun t k => own_dload X0.here hx rfl (hb hby at_83) rfl k) ?_
      refine own_by (B := s₁.setTop (mkF m 87 #[.val (.int i0), .val (.int i1), .val (.int i2), .val (.int (0 : Int32)), .val (.int (0 : Int32)), .val (.long (i0.toInt64)), .second, .val (.long (i1.toInt64)), .second, .val (.double (FP.i2d i0)), .second, .val (.double (FP.i2d i1)), .second, .unset] [(.double (FP.i2d i1)), (.double (FP.i2d i0))])) (fun t k => own_dload X0.here hx rfl (hb hby at_85) rfl k) ?_
      obtain ⟨_, _, ⟨T1, L1, k1, n1⟩, -, X1, ⟨Lc1, hQ1, l1, y1, z1⟩, st1⟩ := Jvm.LawKit.callS X0 hx (y := (⟨"com/example/surrogate/surrogate/search/Hit", "compareScores", "(DD)I"⟩ : MethodName)) hown (mvT hZ (hw _ (List.mem_of_getElem? (i := 0) rfl))) (mvT hZ (hw _ (List.mem_of_getElem? (i := 1) rfl))) (mvT hZ (hw _ (List.mem_of_getElem? (i := 2) rfl))) (mvT hZ (hw _ (List.mem_of_getElem? (i := 3) rfl))) (by decide) (backOf (W := 0) (rm1 l Z a0 hw [] (FP.i2d i0) (FP.i2d i1) h0 n0 Zs) hZ (hw _ (List.mem_of_getElem? (i := 3) rfl)) (hw _ (List.mem_of_getElem? (i := 2) rfl)) (by decide) (by decide)) (g := (mkF m 87 #[.val (.int i0), .val (.int i1), .val (.int i2), .val (.int (0 : Int32)), .val (.int (0 : Int32)), .val (.long (i0.toInt64)), .second, .val (.long (i1.toInt64)), .second, .val (.double (FP.i2d i0)), .second, .val (.double (FP.i2d i1)), .second, .unset] [(.double (FP.i2d i1)), (.double (FP.i2d i0))])) rfl (by rw [hml]; rfl) (argsL := [(.double (FP.i2d i0)), (.double (FP.i2d i1))]) (rest := []) (lenOf own_pd0 rfl) rfl (by show 2 * 0 + _ ≤ _; exact Nat.le_of_eq rfl) (hb hby at_87) (fun _ _ => ⟨rfl, e0, (by decide : 0 + 0 ≤ _), (by decide : 0 + 0 ≤ _)⟩)
      dsimp only [Pt.U, Pt.locs, Pt.cells, Pt.slots] at X1 l1 y1 z1 st1 hQ1
      subst l1 y1 z1
      obtain ⟨rfl, Nq1, hp1⟩ := hQ1
      have Nf := Fr.app Nf Nq1
      have ec1 : T1.heap = h0 := hp1
      refine own_by (B := T1.setTop (mkF m 90 #[.val (.int i0), .val (.int i1), .val (.int i2), .val (.int (0 : Int32)), .val (.int (0 : Int32)), .val (.long (i0.toInt64)), .second, .val (.long (i1.toInt64)), .second, .val (.double (FP.i2d i0)), .second, .val (.double (FP.i2d i1)), .second, .unset] [(.int (own_cs (FP.i2d i0) (FP.i2d i1)))])) st1 ?_
      refine own_by (B := T1.setTop (mkF m 92 #[.val (.int i0), .val (.int i1), .val (.int i2), .val (.int (0 : Int32)), .val (.int (0 : Int32)), .val (.long (i0.toInt64)), .second, .val (.long (i1.toInt64)), .second, .val (.double (FP.i2d i0)), .second, .val (.double (FP.i2d i1)), .second, .val (.int (own_cs (FP.i2d i0) (FP.i2d i1)))] [])) (fun t k => XS.istore X1.here hx rfl (hb hby at_90) rfl (l' := #[.val (.int i0), .val (.int i1), .val (.int i2), .val (.int (0 : Int32)), .val (.int (0 : Int32)), .val (.long (i0.toInt64)), .second, .val (.long (i1.toInt64)), .second, .val (.double (FP.i2d i0)), .second, .val (.double (FP.i2d i1)), .second, .val (.int (own_cs (FP.i2d i0) (FP.i2d i1)))]) rfl k) ?_
      refine own_by (B := T1.setTop (mkF m 94 #[.val (.int i0), .val (.int i1), .val (.int i2), .val (.int (0 : Int32)), .val (.int (0 : Int32)), .val (.long (i0.toInt64)), .second, .val (.long (i1.toInt64)), .second, .val (.double (FP.i2d i0)), .second, .val (.double (FP.i2d i1)), .second, .val (.int (own_cs (FP.i2d i0) (FP.i2d i1)))] [(.long (i0.toInt64))])) (fun t k => XS.lload X1.here hx rfl (hb hby at_92) rfl k) ?_
      refine own_by (B := T1.setTop (mkF m 96 #[.val (.int i0), .val (.int i1), .val (.int i2), .val (.int (0 : Int32)), .val (.int (0 : Int32)), .val (.long (i0.toInt64)), .second, .val (.long (i1.toInt64)), .second, .val (.double (FP.i2d i0)), .second, .val (.double (FP.i2d i1)), .second, .val (.int (own_cs (FP.i2d i0) (FP.i2d i1)))] [(.long (i1.toInt64)), (.long (i0.toInt64))])) (fun t k => XS.lload X1.here hx rfl (hb hby at_94) rfl k) ?_
      refine own_by (B := T1.setTop (mkF m 97 #[.val (.int i0), .val (.int i1), .val (.int i2), .val (.int (0 : Int32)), .val (.int (0 : Int32)), .val (.long (i0.toInt64)), .second, .val (.long (i1.toInt64)), .second, .val (.double (FP.i2d i0)), .second, .val (.double (FP.i2d i1)), .second, .val (.int (own_cs (FP.i2d i0) (FP.i2d i1)))] [(.int (lcmpW (i0.toInt64) (i1.toInt64)))])) (fun t k => XS.lcmp X1.here hx rfl (hb hby at_96) rfl k) ?_
      by_cases hc97 : (0 : Int32) < (lcmpW (i0.toInt64) (i1.toInt64))
      · refine own_by (B := T1.setTop (mkF m 100 #[.val (.int i0), .val (.int i1), .val (.int i2), .val (.int (0 : Int32)), .val (.int (0 : Int32)), .val (.long (i0.toInt64)), .second, .val (.long (i1.toInt64)), .second, .val (.double (FP.i2d i0)), .second, .val (.double (FP.i2d i1)), .second, .val (.int (own_cs (FP.i2d i0) (FP.i2d i1)))] [])) (fun t k => XS.ifNo X1.here hx rfl (hb hby at_97) rfl ((if0 _ _).trans (tlt hc97).2.2.2) k) ?_
        refine own_by (B := T1.setTop (mkF m 102 #[.val (.int i0), .val (.int i1), .val (.int i2), .val (.int (0 : Int32)), .val (.int (0 : Int32)), .val (.long (i0.toInt64)), .second, .val (.long (i1.toInt64)), .second, .val (.double (FP.i2d i0)), .second, .val (.double (FP.i2d i1)), .second, .val (.int (own_cs (FP.i2d i0) (FP.i2d i1)))] [(.int (own_cs (FP.i2d i0) (FP.i2d i1)))])) (fun t k => XS.iload X1.here hx rfl (hb hby at_100) rfl k) ?_
        have hv : (own_cs (FP.i2d i0) (FP.i2d i1)) = (-1 : Int32) := by rw [own_cs_val (own_repP i0) (own_repP i1), if_pos hc97]
        refine own_by (B := T1.setTop (mkF m 105 #[.val (.int i0), .val (.int i1), .val (.int i2), .val (.int (0 : Int32)), .val (.int (0 : Int32)), .val (.long (i0.toInt64)), .second, .val (.long (i1.toInt64)), .second, .val (.double (FP.i2d i0)), .second, .val (.double (FP.i2d i1)), .second, .val (.int (own_cs (FP.i2d i0) (FP.i2d i1)))] [])) (fun t k => XS.ifNo X1.here hx rfl (hb hby at_102) rfl ((if0 _ _).trans (tlt (by rw [hv]; decide)).2.1) k) ?_
        refine own_by (B := T1.setTop (mkF m 106 #[.val (.int i0), .val (.int i1), .val (.int i2), .val (.int (0 : Int32)), .val (.int (0 : Int32)), .val (.long (i0.toInt64)), .second, .val (.long (i1.toInt64)), .second, .val (.double (FP.i2d i0)), .second, .val (.double (FP.i2d i1)), .second, .val (.int (own_cs (FP.i2d i0) (FP.i2d i1)))] [(.int (1 : Int32))])) (fun t k => XS.iconst X1.here hx rfl (hb hby at_105) k) ?_
        refine own_by (B := T1.setTop (mkF m 110 #[.val (.int i0), .val (.int i1), .val (.int i2), .val (.int (0 : Int32)), .val (.int (0 : Int32)), .val (.long (i0.toInt64)), .second, .val (.long (i1.toInt64)), .second, .val (.double (FP.i2d i0)), .second, .val (.double (FP.i2d i1)), .second, .val (.int (own_cs (FP.i2d i0) (FP.i2d i1)))] [(.int (1 : Int32))])) (fun t k => XS.goto X1.here hx rfl (pc0 := 106) (pc' := 110) rfl (hb hby at_106) (by decide) (by decide) k) ?_
        exact own_end X1 (v := some (.int (1 : Int32))) (fun h => by rw [Bd.returns] at h; cases h) (BodyLoose.notSynchronized Bd) (Q := (Q_rm0 Z i0 i1 i2 h0 n0)) (fun fs hr => retN X1 hx (t := .boolean) Bd.returns (by simp) (hb hby at_110) hr) (show (Q_rm0 Z i0 i1 i2 h0 n0) _ T1.heap _ from (by rw [ec1]; exact ⟨rfl, Nf⟩)) (by decide) (by decide)
      · refine own_by (B := T1.setTop (mkF m 111 #[.val (.int i0), .val (.int i1), .val (.int i2), .val (.int (0 : Int32)), .val (.int (0 : Int32)), .val (.long (i0.toInt64)), .second, .val (.long (i1.toInt64)), .second, .val (.double (FP.i2d i0)), .second, .val (.double (FP.i2d i1)), .second, .val (.int (own_cs (FP.i2d i0) (FP.i2d i1)))] [])) (fun t k => XS.ifYes X1.here hx rfl (pc0 := 97) (pc' := 111) rfl (hb hby at_97) rfl ((if0 _ _).trans (flt hc97).2.2.2) (by decide) (by decide) k) ?_
        refine own_by (B := T1.setTop (mkF m 113 #[.val (.int i0), .val (.int i1), .val (.int i2), .val (.int (0 : Int32)), .val (.int (0 : Int32)), .val (.long (i0.toInt64)), .second, .val (.long (i1.toInt64)), .second, .val (.double (FP.i2d i0)), .second, .val (.double (FP.i2d i1)), .second, .val (.int (own_cs (FP.i2d i0) (FP.i2d i1)))] [(.long (i0.toInt64))])) (fun t k => XS.lload X1.here hx rfl (hb hby at_111) rfl k) ?_
        refine own_by (B := T1.setTop (mkF m 115 #[.val (.int i0), .val (.int i1), .val (.int i2), .val (.int (0 : Int32)), .val (.int (0 : Int32)), .val (.long (i0.toInt64)), .second, .val (.long (i1.toInt64)), .second, .val (.double (FP.i2d i0)), .second, .val (.double (FP.i2d i1)), .second, .val (.int (own_cs (FP.i2d i0) (FP.i2d i1)))] [(.long (i1.toInt64)), (.long (i0.toInt64))])) (fun t k => XS.lload X1.here hx rfl (hb hby at_113) rfl k) ?_
        refine own_by (B := T1.setTop (mkF m 116 #[.val (.int i0), .val (.int i1), .val (.int i2), .val (.int (0 : Int32)), .val (.int (0 : Int32)), .val (.long (i0.toInt64)), .second, .val (.long (i1.toInt64)), .second, .val (.double (FP.i2d i0)), .second, .val (.double (FP.i2d i1)), .second, .val (.int (own_cs (FP.i2d i0) (FP.i2d i1)))] [(.int (lcmpW (i0.toInt64) (i1.toInt64)))])) (fun t k => XS.lcmp X1.here hx rfl (hb hby at_115) rfl k) ?_
        by_cases hc116 : (lcmpW (i0.toInt64) (i1.toInt64)) < (0 : Int32)
        · refine own_by (B := T1.setTop (mkF m 119 #[.val (.int i0), .val (.int i1), .val (.int i2), .val (.int (0 : Int32)), .val (.int (0 : Int32)), .val (.long (i0.toInt64)), .second, .val (.long (i1.toInt64)), .second, .val (.double (FP.i2d i0)), .second, .val (.double (FP.i2d i1)), .second, .val (.int (own_cs (FP.i2d i0) (FP.i2d i1)))] [])) (fun t k => XS.ifNo X1.here hx rfl (hb hby at_116) rfl ((if0 _ _).trans (tlt hc116).2.1) k) ?_
          refine own_by (B := T1.setTop (mkF m 121 #[.val (.int i0), .val (.int i1), .val (.int i2), .val (.int (0 : Int32)), .val (.int (0 : Int32)), .val (.long (i0.toInt64)), .second, .val (.long (i1.toInt64)), .second, .val (.double (FP.i2d i0)), .second, .val (.double (FP.i2d i1)), .second, .val (.int (own_cs (FP.i2d i0) (FP.i2d i1)))] [(.int (own_cs (FP.i2d i0) (FP.i2d i1)))])) (fun t k => XS.iload X1.here hx rfl (hb hby at_119) rfl k) ?_
          have hv : (own_cs (FP.i2d i0) (FP.i2d i1)) = (1 : Int32) := by rw [own_cs_val (own_repP i0) (own_repP i1), if_neg hc97, if_pos hc116]
          refine own_by (B := T1.setTop (mkF m 124 #[.val (.int i0), .val (.int i1), .val (.int i2), .val (.int (0 : Int32)), .val (.int (0 : Int32)), .val (.long (i0.toInt64)), .second, .val (.long (i1.toInt64)), .second, .val (.double (FP.i2d i0)), .second, .val (.double (FP.i2d i1)), .second, .val (.int (own_cs (FP.i2d i0) (FP.i2d i1)))] [])) (fun t k => XS.ifNo X1.here hx rfl (hb hby at_121) rfl ((if0 _ _).trans (tlt (by rw [hv]; decide)).2.2.2) k) ?_
          refine own_by (B := T1.setTop (mkF m 125 #[.val (.int i0), .val (.int i1), .val (.int i2), .val (.int (0 : Int32)), .val (.int (0 : Int32)), .val (.long (i0.toInt64)), .second, .val (.long (i1.toInt64)), .second, .val (.double (FP.i2d i0)), .second, .val (.double (FP.i2d i1)), .second, .val (.int (own_cs (FP.i2d i0) (FP.i2d i1)))] [(.int (1 : Int32))])) (fun t k => XS.iconst X1.here hx rfl (hb hby at_124) k) ?_
          refine own_by (B := T1.setTop (mkF m 129 #[.val (.int i0), .val (.int i1), .val (.int i2), .val (.int (0 : Int32)), .val (.int (0 : Int32)), .val (.long (i0.toInt64)), .second, .val (.long (i1.toInt64)), .second, .val (.double (FP.i2d i0)), .second, .val (.double (FP.i2d i1)), .second, .val (.int (own_cs (FP.i2d i0) (FP.i2d i1)))] [(.int (1 : Int32))])) (fun t k => XS.goto X1.here hx rfl (pc0 := 125) (pc' := 129) rfl (hb hby at_125) (by decide) (by decide) k) ?_
          exact own_end X1 (v := some (.int (1 : Int32))) (fun h => by rw [Bd.returns] at h; cases h) (BodyLoose.notSynchronized Bd) (Q := (Q_rm0 Z i0 i1 i2 h0 n0)) (fun fs hr => retN X1 hx (t := .boolean) Bd.returns (by simp) (hb hby at_129) hr) (show (Q_rm0 Z i0 i1 i2 h0 n0) _ T1.heap _ from (by rw [ec1]; exact ⟨rfl, Nf⟩)) (by decide) (by decide)
        · refine own_by (B := T1.setTop (mkF m 130 #[.val (.int i0), .val (.int i1), .val (.int i2), .val (.int (0 : Int32)), .val (.int (0 : Int32)), .val (.long (i0.toInt64)), .second, .val (.long (i1.toInt64)), .second, .val (.double (FP.i2d i0)), .second, .val (.double (FP.i2d i1)), .second, .val (.int (own_cs (FP.i2d i0) (FP.i2d i1)))] [])) (fun t k => XS.ifYes X1.here hx rfl (pc0 := 116) (pc' := 130) rfl (hb hby at_116) rfl ((if0 _ _).trans (flt hc116).2.1) (by decide) (by decide) k) ?_
          refine own_by (B := T1.setTop (mkF m 132 #[.val (.int i0), .val (.int i1), .val (.int i2), .val (.int (0 : Int32)), .val (.int (0 : Int32)), .val (.long (i0.toInt64)), .second, .val (.long (i1.toInt64)), .second, .val (.double (FP.i2d i0)), .second, .val (.double (FP.i2d i1)), .second, .val (.int (own_cs (FP.i2d i0) (FP.i2d i1)))] [(.int (own_cs (FP.i2d i0) (FP.i2d i1)))])) (fun t k => XS.iload X1.here hx rfl (hb hby at_130) rfl k) ?_
          have hv : (own_cs (FP.i2d i0) (FP.i2d i1)) = (0 : Int32) := by rw [own_cs_val (own_repP i0) (own_repP i1), if_neg hc97, if_neg hc116]
          refine own_by (B := T1.setTop (mkF m 135 #[.val (.int i0), .val (.int i1), .val (.int i2), .val (.int (0 : Int32)), .val (.int (0 : Int32)), .val (.long (i0.toInt64)), .second, .val (.long (i1.toInt64)), .second, .val (.double (FP.i2d i0)), .second, .val (.double (FP.i2d i1)), .second, .val (.int (own_cs (FP.i2d i0) (FP.i2d i1)))] [])) (fun t k => XS.ifNo X1.here hx rfl (hb hby at_132) rfl ((if0 _ _).trans (teq hv).2) k) ?_
          refine own_by (B := T1.setTop (mkF m 136 #[.val (.int i0), .val (.int i1), .val (.int i2), .val (.int (0 : Int32)), .val (.int (0 : Int32)), .val (.long (i0.toInt64)), .second, .val (.long (i1.toInt64)), .second, .val (.double (FP.i2d i0)), .second, .val (.double (FP.i2d i1)), .second, .val (.int (own_cs (FP.i2d i0) (FP.i2d i1)))] [(.int (1 : Int32))])) (fun t k => XS.iconst X1.here hx rfl (hb hby at_135) k) ?_
          refine own_by (B := T1.setTop (mkF m 140 #[.val (.int i0), .val (.int i1), .val (.int i2), .val (.int (0 : Int32)), .val (.int (0 : Int32)), .val (.long (i0.toInt64)), .second, .val (.long (i1.toInt64)), .second, .val (.double (FP.i2d i0)), .second, .val (.double (FP.i2d i1)), .second, .val (.int (own_cs (FP.i2d i0) (FP.i2d i1)))] [(.int (1 : Int32))])) (fun t k => XS.goto X1.here hx rfl (pc0 := 136) (pc' := 140) rfl (hb hby at_136) (by decide) (by decide) k) ?_
          exact own_end X1 (v := some (.int (1 : Int32))) (fun h => by rw [Bd.returns] at h; cases h) (BodyLoose.notSynchronized Bd) (Q := (Q_rm0 Z i0 i1 i2 h0 n0)) (fun fs hr => retN X1 hx (t := .boolean) Bd.returns (by simp) (hb hby at_140) hr) (show (Q_rm0 Z i0 i1 i2 h0 n0) _ T1.heap _ from (by rw [ec1]; exact ⟨rfl, Nf⟩)) (by decide) (by decide)
    · refine own_by (B := s₁.setTop (mkF m 18 #[.val (.int i0), .val (.int i1), .val (.int i2), .val (.int (0 : Int32)), .unset, .unset, .unset, .unset, .unset, .unset, .unset, .unset, .unset, .unset] [])) (fun t k => XS.ifNo X0.here hx rfl (hb hby at_15) rfl ((if0 _ _).trans (feq hc15).1) k) ?_
      refine own_by (B := s₁.setTop (mkF m 19 #[.val (.int i0), .val (.int i1), .val (.int i2), .val (.int (0 : Int32)), .unset, .unset, .unset, .unset, .unset, .unset, .unset, .unset, .unset, .unset] [(.int (1 : Int32))])) (fun t k => XS.iconst X0.here hx rfl (hb hby at_18) k) ?_
      refine own_by (B := s₁.setTop (mkF m 23 #[.val (.int i0), .val (.int i1), .val (.int i2), .val (.int (0 : Int32)), .unset, .unset, .unset, .unset, .unset, .unset, .unset, .unset, .unset, .unset] [(.int (1 : Int32))])) (fun t k => XS.goto X0.here hx rfl (pc0 := 19) (pc' := 23) rfl (hb hby at_19) (by decide) (by decide) k) ?_
      refine own_by (B := s₁.setTop (mkF m 25 #[.val (.int i0), .val (.int i1), .val (.int i2), .val (.int (0 : Int32)), .val (.int (1 : Int32)), .unset, .unset, .unset, .unset, .unset, .unset, .unset, .unset, .unset] [])) (fun t k => XS.istore X0.here hx rfl (hb hby at_23) rfl (l' := #[.val (.int i0), .val (.int i1), .val (.int i2), .val (.int (0 : Int32)), .val (.int (1 : Int32)), .unset, .unset, .unset, .unset, .unset, .unset, .unset, .unset, .unset]) rfl k) ?_
      refine own_by (B := s₁.setTop (mkF m 26 #[.val (.int i0), .val (.int i1), .val (.int i2), .val (.int (0 : Int32)), .val (.int (1 : Int32)), .unset, .unset, .unset, .unset, .unset, .unset, .unset, .unset, .unset] [(.int (0 : Int32))])) (fun t k => XS.iloadN X0.here hx rfl (hb hby at_25) rfl k) ?_
      refine own_by (B := s₁.setTop (mkF m 35 #[.val (.int i0), .val (.int i1), .val (.int i2), .val (.int (0 : Int32)), .val (.int (1 : Int32)), .unset, .unset, .unset, .unset, .unset, .unset, .unset, .unset, .unset] [])) (fun t k => XS.ifYes X0.here hx rfl (pc0 := 26) (pc' := 35) rfl (hb hby at_26) rfl ((if0 _ _).trans (teq (by decide)).1) (by decide) (by decide) k) ?_
      refine own_by (B := s₁.setTop (mkF m 36 #[.val (.int i0), .val (.int i1), .val (.int i2), .val (.int (0 : Int32)), .val (.int (1 : Int32)), .unset, .unset, .unset, .unset, .unset, .unset, .unset, .unset, .unset] [(.int i0)])) (fun t k => XS.iloadN X0.here hx rfl (hb hby at_35) rfl k) ?_
      refine own_by (B := s₁.setTop (mkF m 37 #[.val (.int i0), .val (.int i1), .val (.int i2), .val (.int (0 : Int32)), .val (.int (1 : Int32)), .unset, .unset, .unset, .unset, .unset, .unset, .unset, .unset, .unset] [(.long (i0.toInt64))])) (fun t k => XS.i2l X0.here hx rfl (hb hby at_36) rfl k) ?_
      refine own_by (B := s₁.setTop (mkF m 39 #[.val (.int i0), .val (.int i1), .val (.int i2), .val (.int (0 : Int32)), .val (.int (1 : Int32)), .val (.long (i0.toInt64)), .second, .unset, .unset, .unset, .unset, .unset, .unset, .unset] [])) (fun t k => XS.lstore X0.here hx rfl (hb hby at_37) rfl (l' := #[.val (.int i0), .val (.int i1), .val (.int i2), .val (.int (0 : Int32)), .val (.int (1 : Int32)), .val (.long (i0.toInt64)), .second, .unset, .unset, .unset, .unset, .unset, .unset, .unset]) rfl k) ?_
      refine own_by (B := s₁.setTop (mkF m 41 #[.val (.int i0), .val (.int i1), .val (.int i2), .val (.int (0 : Int32)), .val (.int (1 : Int32)), .val (.long (i0.toInt64)), .second, .unset, .unset, .unset, .unset, .unset, .unset, .unset] [(.int (1 : Int32))])) (fun t k => XS.iload X0.here hx rfl (hb hby at_39) rfl k) ?_
      refine own_by (B := s₁.setTop (mkF m 44 #[.val (.int i0), .val (.int i1), .val (.int i2), .val (.int (0 : Int32)), .val (.int (1 : Int32)), .val (.long (i0.toInt64)), .second, .unset, .unset, .unset, .unset, .unset, .unset, .unset] [])) (fun t k => XS.ifNo X0.here hx rfl (hb hby at_41) rfl ((if0 _ _).trans (feq (by decide)).1) k) ?_
      refine own_by (B := s₁.setTop (mkF m 45 #[.val (.int i0), .val (.int i1), .val (.int i2), .val (.int (0 : Int32)), .val (.int (1 : Int32)), .val (.long (i0.toInt64)), .second, .unset, .unset, .unset, .unset, .unset, .unset, .unset] [(.int i1)])) (fun t k => XS.iloadN X0.here hx rfl (hb hby at_44) rfl k) ?_
      refine own_by (B := s₁.setTop (mkF m 46 #[.val (.int i0), .val (.int i1), .val (.int i2), .val (.int (0 : Int32)), .val (.int (1 : Int32)), .val (.long (i0.toInt64)), .second, .unset, .unset, .unset, .unset, .unset, .unset, .unset] [(.long (i1.toInt64))])) (fun t k => XS.i2l X0.here hx rfl (hb hby at_45) rfl k) ?_
      refine own_by (B := s₁.setTop (mkF m 47 #[.val (.int i0), .val (.int i1), .val (.int i2), .val (.int (0 : Int32)), .val (.int (1 : Int32)), .val (.long (i0.toInt64)), .second, .unset, .unset, .unset, .unset, .unset, .unset, .unset] [(.long (-(i1.toInt64)))])) (fun t k => XS.lneg X0.here hx rfl (hb hby at_46) rfl k) ?_
      refine own_by (B := s₁.setTop (mkF m 52 #[.val (.int i0), .val (.int i1), .val (.int i2), .val (.int (0 : Int32)), .val (.int (1 : Int32)), .val (.long (i0.toInt64)), .second, .unset, .unset, .unset, .unset, .unset, .unset, .unset] [(.long (-(i1.toInt64)))])) (fun t k => XS.goto X0.here hx rfl (pc0 := 47) (pc' := 52) rfl (hb hby at_47) (by decide) (by decide) k) ?_
      refine own_by (B := s₁.setTop (mkF m 54 #[.val (.int i0), .val (.int i1), .val (.int i2), .val (.int (0 : Int32)), .val (.int (1 : Int32)), .val (.long (i0.toInt64)), .second, .val (.long (-(i1.toInt64))), .second, .unset, .unset, .unset, .unset, .unset] [])) (fun t k => XS.lstore X0.here hx rfl (hb hby at_52) rfl (l' := #[.val (.int i0), .val (.int i1), .val (.int i2), .val (.int (0 : Int32)), .val (.int (1 : Int32)), .val (.long (i0.toInt64)), .second, .val (.long (-(i1.toInt64))), .second, .unset, .unset, .unset, .unset, .unset]) rfl k) ?_
      refine own_by (B := s₁.setTop (mkF m 55 #[.val (.int i0), .val (.int i1), .val (.int i2), .val (.int (0 : Int32)), .val (.int (1 : Int32)), .val (.long (i0.toInt64)), .second, .val (.long (-(i1.toInt64))), .second, .unset, .unset, .unset, .unset, .unset] [(.int (0 : Int32))])) (fun t k => XS.iloadN X0.here hx rfl (hb hby at_54) rfl k) ?_
      refine own_by (B := s₁.setTop (mkF m 64 #[.val (.int i0), .val (.int i1), .val (.int i2), .val (.int (0 : Int32)), .val (.int (1 : Int32)), .val (.long (i0.toInt64)), .second, .val (.long (-(i1.toInt64))), .second, .unset, .unset, .unset, .unset, .unset] [])) (fun t k => XS.ifYes X0.here hx rfl (pc0 := 55) (pc' := 64) rfl (hb hby at_55) rfl ((if0 _ _).trans (teq (by decide)).1) (by decide) (by decide) k) ?_
      refine own_by (B := s₁.setTop (mkF m 65 #[.val (.int i0), .val (.int i1), .val (.int i2), .val (.int (0 : Int32)), .val (.int (1 : Int32)), .val (.long (i0.toInt64)), .second, .val (.long (-(i1.toInt64))), .second, .unset, .unset, .unset, .unset, .unset] [(.int i0)])) (fun t k => XS.iloadN X0.here hx rfl (hb hby at_64) rfl k) ?_
      refine own_by (B := s₁.setTop (mkF m 66 #[.val (.int i0), .val (.int i1), .val (.int i2), .val (.int (0 : Int32)), .val (.int (1 : Int32)), .val (.long (i0.toInt64)), .second, .val (.long (-(i1.toInt64))), .second, .unset, .unset, .unset, .unset, .unset] [(.double (FP.i2d i0))])) (fun t k => own_i2d X0.here hx rfl (hb hby at_65) rfl k) ?_
      refine own_by (B := s₁.setTop (mkF m 68 #[.val (.int i0), .val (.int i1), .val (.int i2), .val (.int (0 : Int32)), .val (.int (1 : Int32)), .val (.long (i0.toInt64)), .second, .val (.long (-(i1.toInt64))), .second, .val (.double (FP.i2d i0)), .second, .unset, .unset, .unset] [])) (fun t k => own_dstore X0.here hx rfl (hb hby at_66) rfl (l' := #[.val (.int i0), .val (.int i1), .val (.int i2), .val (.int (0 : Int32)), .val (.int (1 : Int32)), .val (.long (i0.toInt64)), .second, .val (.long (-(i1.toInt64))), .second, .val (.double (FP.i2d i0)), .second, .unset, .unset, .unset]) rfl k) ?_
      refine own_by (B := s₁.setTop (mkF m 70 #[.val (.int i0), .val (.int i1), .val (.int i2), .val (.int (0 : Int32)), .val (.int (1 : Int32)), .val (.long (i0.toInt64)), .second, .val (.long (-(i1.toInt64))), .second, .val (.double (FP.i2d i0)), .second, .unset, .unset, .unset] [(.int (1 : Int32))])) (fun t k => XS.iload X0.here hx rfl (hb hby at_68) rfl k) ?_
      refine own_by (B := s₁.setTop (mkF m 73 #[.val (.int i0), .val (.int i1), .val (.int i2), .val (.int (0 : Int32)), .val (.int (1 : Int32)), .val (.long (i0.toInt64)), .second, .val (.long (-(i1.toInt64))), .second, .val (.double (FP.i2d i0)), .second, .unset, .unset, .unset] [])) (fun t k => XS.ifNo X0.here hx rfl (hb hby at_70) rfl ((if0 _ _).trans (feq (by decide)).1) k) ?_
      refine own_by (B := s₁.setTop (mkF m 74 #[.val (.int i0), .val (.int i1), .val (.int i2), .val (.int (0 : Int32)), .val (.int (1 : Int32)), .val (.long (i0.toInt64)), .second, .val (.long (-(i1.toInt64))), .second, .val (.double (FP.i2d i0)), .second, .unset, .unset, .unset] [(.int i1)])) (fun t k => XS.iloadN X0.here hx rfl (hb hby at_73) rfl k) ?_
      refine own_by (B := s₁.setTop (mkF m 75 #[.val (.int i0), .val (.int i1), .val (.int i2), .val (.int (0 : Int32)), .val (.int (1 : Int32)), .val (.long (i0.toInt64)), .second, .val (.long (-(i1.toInt64))), .second, .val (.double (FP.i2d i0)), .second, .unset, .unset, .unset] [(.double (FP.i2d i1))])) (fun t k => own_i2d X0.here hx rfl (hb hby at_74) rfl k) ?_
      refine own_by (B := s₁.setTop (mkF m 76 #[.val (.int i0), .val (.int i1), .val (.int i2), .val (.int (0 : Int32)), .val (.int (1 : Int32)), .val (.long (i0.toInt64)), .second, .val (.long (-(i1.toInt64))), .second, .val (.double (FP.i2d i0)), .second, .unset, .unset, .unset] [(.double (FP.dneg (FP.i2d i1)))])) (fun t k => own_dneg X0.here hx rfl (hb hby at_75) rfl k) ?_
      refine own_by (B := s₁.setTop (mkF m 81 #[.val (.int i0), .val (.int i1), .val (.int i2), .val (.int (0 : Int32)), .val (.int (1 : Int32)), .val (.long (i0.toInt64)), .second, .val (.long (-(i1.toInt64))), .second, .val (.double (FP.i2d i0)), .second, .unset, .unset, .unset] [(.double (FP.dneg (FP.i2d i1)))])) (fun t k => XS.goto X0.here hx rfl (pc0 := 76) (pc' := 81) rfl (hb hby at_76) (by decide) (by decide) k) ?_
      refine own_by (B := s₁.setTop (mkF m 83 #[.val (.int i0), .val (.int i1), .val (.int i2), .val (.int (0 : Int32)), .val (.int (1 : Int32)), .val (.long (i0.toInt64)), .second, .val (.long (-(i1.toInt64))), .second, .val (.double (FP.i2d i0)), .second, .val (.double (FP.dneg (FP.i2d i1))), .second, .unset] [])) (fun t k => own_dstore X0.here hx rfl (hb hby at_81) rfl (l' := #[.val (.int i0), .val (.int i1), .val (.int i2), .val (.int (0 : Int32)), .val (.int (1 : Int32)), .val (.long (i0.toInt64)), .second, .val (.long (-(i1.toInt64))), .second, .val (.double (FP.i2d i0)), .second, .val (.double (FP.dneg (FP.i2d i1))), .second, .unset]) rfl k) ?_
      refine own_by (B := s₁.setTop (mkF m 85 #[.val (.int i0), .val (.int i1), .val (.int i2), .val (.int (0 : Int32)), .val (.int (1 : Int32)), .val (.long (i0.toInt64)), .second, .val (.long (-(i1.toInt64))), .second, .val (.double (FP.i2d i0)), .second, .val (.double (FP.dneg (FP.i2d i1))), .second, .unset] [(.double (FP.i2d i0))])) (fun t k => own_dload X0.here hx rfl (hb hby at_83) rfl k) ?_
      refine own_by (B := s₁.setTop (mkF m 87 #[.val (.int i0), .val (.int i1), .val (.int i2), .val (.int (0 : Int32)), .val (.int (1 : Int32)), .val (.long (i0.toInt64)), .second, .val (.long (-(i1.toInt64))), .second, .val (.double (FP.i2d i0)), .second, .val (.double (FP.dneg (FP.i2d i1))), .second, .unset] [(.double (FP.dneg (FP.i2d i1))), (.double (FP.i2d i0))])) (fun t k => own_dload X0.here hx rfl (hb hby at_85) rfl k) ?_
      obtain ⟨_, _, ⟨T2, L2, k2, n2⟩, -, X2, ⟨Lc2, hQ2, l2, y2, z2⟩, st2⟩ := Jvm.LawKit.callS X0 hx (y := (⟨"com/example/surrogate/surrogate/search/Hit", "compareScores", "(DD)I"⟩ : MethodName)) hown (mvT hZ (hw _ (List.mem_of_getElem? (i := 0) rfl))) (mvT hZ (hw _ (List.mem_of_getElem? (i := 1) rfl))) (mvT hZ (hw _ (List.mem_of_getElem? (i := 2) rfl))) (mvT hZ (hw _ (List.mem_of_getElem? (i := 3) rfl))) (by decide) (backOf (W := 0) (rm1 l Z a0 hw [] (FP.i2d i0) (FP.dneg (FP.i2d i1)) h0 n0 Zs) hZ (hw _ (List.mem_of_getElem? (i := 3) rfl)) (hw _ (List.mem_of_getElem? (i := 2) rfl)) (by decide) (by decide)) (g := (mkF m 87 #[.val (.int i0), .val (.int i1), .val (.int i2), .val (.int (0 : Int32)), .val (.int (1 : Int32)), .val (.long (i0.toInt64)), .second, .val (.long (-(i1.toInt64))), .second, .val (.double (FP.i2d i0)), .second, .val (.double (FP.dneg (FP.i2d i1))), .second, .unset] [(.double (FP.dneg (FP.i2d i1))), (.double (FP.i2d i0))])) rfl (by rw [hml]; rfl) (argsL := [(.double (FP.i2d i0)), (.double (FP.dneg (FP.i2d i1)))]) (rest := []) (lenOf own_pd0 rfl) rfl (by show 2 * 0 + _ ≤ _; exact Nat.le_of_eq rfl) (hb hby at_87) (fun _ _ => ⟨rfl, e0, (by decide : 0 + 0 ≤ _), (by decide : 0 + 0 ≤ _)⟩)
      dsimp only [Pt.U, Pt.locs, Pt.cells, Pt.slots] at X2 l2 y2 z2 st2 hQ2
      subst l2 y2 z2
      obtain ⟨rfl, Nq2, hp2⟩ := hQ2
      have Nf := Fr.app Nf Nq2
      have ec2 : T2.heap = h0 := hp2
      refine own_by (B := T2.setTop (mkF m 90 #[.val (.int i0), .val (.int i1), .val (.int i2), .val (.int (0 : Int32)), .val (.int (1 : Int32)), .val (.long (i0.toInt64)), .second, .val (.long (-(i1.toInt64))), .second, .val (.double (FP.i2d i0)), .second, .val (.double (FP.dneg (FP.i2d i1))), .second, .unset] [(.int (own_cs (FP.i2d i0) (FP.dneg (FP.i2d i1))))])) st2 ?_
      refine own_by (B := T2.setTop (mkF m 92 #[.val (.int i0), .val (.int i1), .val (.int i2), .val (.int (0 : Int32)), .val (.int (1 : Int32)), .val (.long (i0.toInt64)), .second, .val (.long (-(i1.toInt64))), .second, .val (.double (FP.i2d i0)), .second, .val (.double (FP.dneg (FP.i2d i1))), .second, .val (.int (own_cs (FP.i2d i0) (FP.dneg (FP.i2d i1))))] [])) (fun t k => XS.istore X2.here hx rfl (hb hby at_90) rfl (l' := #[.val (.int i0), .val (.int i1), .val (.int i2), .val (.int (0 : Int32)), .val (.int (1 : Int32)), .val (.long (i0.toInt64)), .second, .val (.long (-(i1.toInt64))), .second, .val (.double (FP.i2d i0)), .second, .val (.double (FP.dneg (FP.i2d i1))), .second, .val (.int (own_cs (FP.i2d i0) (FP.dneg (FP.i2d i1))))]) rfl k) ?_
      refine own_by (B := T2.setTop (mkF m 94 #[.val (.int i0), .val (.int i1), .val (.int i2), .val (.int (0 : Int32)), .val (.int (1 : Int32)), .val (.long (i0.toInt64)), .second, .val (.long (-(i1.toInt64))), .second, .val (.double (FP.i2d i0)), .second, .val (.double (FP.dneg (FP.i2d i1))), .second, .val (.int (own_cs (FP.i2d i0) (FP.dneg (FP.i2d i1))))] [(.long (i0.toInt64))])) (fun t k => XS.lload X2.here hx rfl (hb hby at_92) rfl k) ?_
      refine own_by (B := T2.setTop (mkF m 96 #[.val (.int i0), .val (.int i1), .val (.int i2), .val (.int (0 : Int32)), .val (.int (1 : Int32)), .val (.long (i0.toInt64)), .second, .val (.long (-(i1.toInt64))), .second, .val (.double (FP.i2d i0)), .second, .val (.double (FP.dneg (FP.i2d i1))), .second, .val (.int (own_cs (FP.i2d i0) (FP.dneg (FP.i2d i1))))] [(.long (-(i1.toInt64))), (.long (i0.toInt64))])) (fun t k => XS.lload X2.here hx rfl (hb hby at_94) rfl k) ?_
      refine own_by (B := T2.setTop (mkF m 97 #[.val (.int i0), .val (.int i1), .val (.int i2), .val (.int (0 : Int32)), .val (.int (1 : Int32)), .val (.long (i0.toInt64)), .second, .val (.long (-(i1.toInt64))), .second, .val (.double (FP.i2d i0)), .second, .val (.double (FP.dneg (FP.i2d i1))), .second, .val (.int (own_cs (FP.i2d i0) (FP.dneg (FP.i2d i1))))] [(.int (lcmpW (i0.toInt64) (-(i1.toInt64))))])) (fun t k => XS.lcmp X2.here hx rfl (hb hby at_96) rfl k) ?_
      by_cases hc97 : (0 : Int32) < (lcmpW (i0.toInt64) (-(i1.toInt64)))
      · refine own_by (B := T2.setTop (mkF m 100 #[.val (.int i0), .val (.int i1), .val (.int i2), .val (.int (0 : Int32)), .val (.int (1 : Int32)), .val (.long (i0.toInt64)), .second, .val (.long (-(i1.toInt64))), .second, .val (.double (FP.i2d i0)), .second, .val (.double (FP.dneg (FP.i2d i1))), .second, .val (.int (own_cs (FP.i2d i0) (FP.dneg (FP.i2d i1))))] [])) (fun t k => XS.ifNo X2.here hx rfl (hb hby at_97) rfl ((if0 _ _).trans (tlt hc97).2.2.2) k) ?_
        refine own_by (B := T2.setTop (mkF m 102 #[.val (.int i0), .val (.int i1), .val (.int i2), .val (.int (0 : Int32)), .val (.int (1 : Int32)), .val (.long (i0.toInt64)), .second, .val (.long (-(i1.toInt64))), .second, .val (.double (FP.i2d i0)), .second, .val (.double (FP.dneg (FP.i2d i1))), .second, .val (.int (own_cs (FP.i2d i0) (FP.dneg (FP.i2d i1))))] [(.int (own_cs (FP.i2d i0) (FP.dneg (FP.i2d i1))))])) (fun t k => XS.iload X2.here hx rfl (hb hby at_100) rfl k) ?_
        have hv : (own_cs (FP.i2d i0) (FP.dneg (FP.i2d i1))) = (-1 : Int32) := by rw [own_cs_val (own_repP i0) (own_repN i1), if_pos hc97]
        refine own_by (B := T2.setTop (mkF m 105 #[.val (.int i0), .val (.int i1), .val (.int i2), .val (.int (0 : Int32)), .val (.int (1 : Int32)), .val (.long (i0.toInt64)), .second, .val (.long (-(i1.toInt64))), .second, .val (.double (FP.i2d i0)), .second, .val (.double (FP.dneg (FP.i2d i1))), .second, .val (.int (own_cs (FP.i2d i0) (FP.dneg (FP.i2d i1))))] [])) (fun t k => XS.ifNo X2.here hx rfl (hb hby at_102) rfl ((if0 _ _).trans (tlt (by rw [hv]; decide)).2.1) k) ?_
        refine own_by (B := T2.setTop (mkF m 106 #[.val (.int i0), .val (.int i1), .val (.int i2), .val (.int (0 : Int32)), .val (.int (1 : Int32)), .val (.long (i0.toInt64)), .second, .val (.long (-(i1.toInt64))), .second, .val (.double (FP.i2d i0)), .second, .val (.double (FP.dneg (FP.i2d i1))), .second, .val (.int (own_cs (FP.i2d i0) (FP.dneg (FP.i2d i1))))] [(.int (1 : Int32))])) (fun t k => XS.iconst X2.here hx rfl (hb hby at_105) k) ?_
        refine own_by (B := T2.setTop (mkF m 110 #[.val (.int i0), .val (.int i1), .val (.int i2), .val (.int (0 : Int32)), .val (.int (1 : Int32)), .val (.long (i0.toInt64)), .second, .val (.long (-(i1.toInt64))), .second, .val (.double (FP.i2d i0)), .second, .val (.double (FP.dneg (FP.i2d i1))), .second, .val (.int (own_cs (FP.i2d i0) (FP.dneg (FP.i2d i1))))] [(.int (1 : Int32))])) (fun t k => XS.goto X2.here hx rfl (pc0 := 106) (pc' := 110) rfl (hb hby at_106) (by decide) (by decide) k) ?_
        exact own_end X2 (v := some (.int (1 : Int32))) (fun h => by rw [Bd.returns] at h; cases h) (BodyLoose.notSynchronized Bd) (Q := (Q_rm0 Z i0 i1 i2 h0 n0)) (fun fs hr => retN X2 hx (t := .boolean) Bd.returns (by simp) (hb hby at_110) hr) (show (Q_rm0 Z i0 i1 i2 h0 n0) _ T2.heap _ from (by rw [ec2]; exact ⟨rfl, Nf⟩)) (by decide) (by decide)
      · refine own_by (B := T2.setTop (mkF m 111 #[.val (.int i0), .val (.int i1), .val (.int i2), .val (.int (0 : Int32)), .val (.int (1 : Int32)), .val (.long (i0.toInt64)), .second, .val (.long (-(i1.toInt64))), .second, .val (.double (FP.i2d i0)), .second, .val (.double (FP.dneg (FP.i2d i1))), .second, .val (.int (own_cs (FP.i2d i0) (FP.dneg (FP.i2d i1))))] [])) (fun t k => XS.ifYes X2.here hx rfl (pc0 := 97) (pc' := 111) rfl (hb hby at_97) rfl ((if0 _ _).trans (flt hc97).2.2.2) (by decide) (by decide) k) ?_
        refine own_by (B := T2.setTop (mkF m 113 #[.val (.int i0), .val (.int i1), .val (.int i2), .val (.int (0 : Int32)), .val (.int (1 : Int32)), .val (.long (i0.toInt64)), .second, .val (.long (-(i1.toInt64))), .second, .val (.double (FP.i2d i0)), .second, .val (.double (FP.dneg (FP.i2d i1))), .second, .val (.int (own_cs (FP.i2d i0) (FP.dneg (FP.i2d i1))))] [(.long (i0.toInt64))])) (fun t k => XS.lload X2.here hx rfl (hb hby at_111) rfl k) ?_
        refine own_by (B := T2.setTop (mkF m 115 #[.val (.int i0), .val (.int i1), .val (.int i2), .val (.int (0 : Int32)), .val (.int (1 : Int32)), .val (.long (i0.toInt64)), .second, .val (.long (-(i1.toInt64))), .second, .val (.double (FP.i2d i0)), .second, .val (.double (FP.dneg (FP.i2d i1))), .second, .val (.int (own_cs (FP.i2d i0) (FP.dneg (FP.i2d i1))))] [(.long (-(i1.toInt64))), (.long (i0.toInt64))])) (fun t k => XS.lload X2.here hx rfl (hb hby at_113) rfl k) ?_
        refine own_by (B := T2.setTop (mkF m 116 #[.val (.int i0), .val (.int i1), .val (.int i2), .val (.int (0 : Int32)), .val (.int (1 : Int32)), .val (.long (i0.toInt64)), .second, .val (.long (-(i1.toInt64))), .second, .val (.double (FP.i2d i0)), .second, .val (.double (FP.dneg (FP.i2d i1))), .second, .val (.int (own_cs (FP.i2d i0) (FP.dneg (FP.i2d i1))))] [(.int (lcmpW (i0.toInt64) (-(i1.toInt64))))])) (fun t k => XS.lcmp X2.here hx rfl (hb hby at_115) rfl k) ?_
        by_cases hc116 : (lcmpW (i0.toInt64) (-(i1.toInt64))) < (0 : Int32)
        · refine own_by (B := T2.setTop (mkF m 119 #[.val (.int i0), .val (.int i1), .val (.int i2), .val (.int (0 : Int32)), .val (.int (1 : Int32)), .val (.long (i0.toInt64)), .second, .val (.long (-(i1.toInt64))), .second, .val (.double (FP.i2d i0)), .second, .val (.double (FP.dneg (FP.i2d i1))), .second, .val (.int (own_cs (FP.i2d i0) (FP.dneg (FP.i2d i1))))] [])) (fun t k => XS.ifNo X2.here hx rfl (hb hby at_116) rfl ((if0 _ _).trans (tlt hc116).2.1) k) ?_
          refine own_by (B := T2.setTop (mkF m 121 #[.val (.int i0), .val (.int i1), .val (.int i2), .val (.int (0 : Int32)), .val (.int (1 : Int32)), .val (.long (i0.toInt64)), .second, .val (.long (-(i1.toInt64))), .second, .val (.double (FP.i2d i0)), .second, .val (.double (FP.dneg (FP.i2d i1))), .second, .val (.int (own_cs (FP.i2d i0) (FP.dneg (FP.i2d i1))))] [(.int (own_cs (FP.i2d i0) (FP.dneg (FP.i2d i1))))])) (fun t k => XS.iload X2.here hx rfl (hb hby at_119) rfl k) ?_
          have hv : (own_cs (FP.i2d i0) (FP.dneg (FP.i2d i1))) = (1 : Int32) := by rw [own_cs_val (own_repP i0) (own_repN i1), if_neg hc97, if_pos hc116]
          refine own_by (B := T2.setTop (mkF m 124 #[.val (.int i0), .val (.int i1), .val (.int i2), .val (.int (0 : Int32)), .val (.int (1 : Int32)), .val (.long (i0.toInt64)), .second, .val (.long (-(i1.toInt64))), .second, .val (.double (FP.i2d i0)), .second, .val (.double (FP.dneg (FP.i2d i1))), .second, .val (.int (own_cs (FP.i2d i0) (FP.dneg (FP.i2d i1))))] [])) (fun t k => XS.ifNo X2.here hx rfl (hb hby at_121) rfl ((if0 _ _).trans (tlt (by rw [hv]; decide)).2.2.2) k) ?_
          refine own_by (B := T2.setTop (mkF m 125 #[.val (.int i0), .val (.int i1), .val (.int i2), .val (.int (0 : Int32)), .val (.int (1 : Int32)), .val (.long (i0.toInt64)), .second, .val (.long (-(i1.toInt64))), .second, .val (.double (FP.i2d i0)), .second, .val (.double (FP.dneg (FP.i2d i1))), .second, .val (.int (own_cs (FP.i2d i0) (FP.dneg (FP.i2d i1))))] [(.int (1 : Int32))])) (fun t k => XS.iconst X2.here hx rfl (hb hby at_124) k) ?_
          refine own_by (B := T2.setTop (mkF m 129 #[.val (.int i0), .val (.int i1), .val (.int i2), .val (.int (0 : Int32)), .val (.int (1 : Int32)), .val (.long (i0.toInt64)), .second, .val (.long (-(i1.toInt64))), .second, .val (.double (FP.i2d i0)), .second, .val (.double (FP.dneg (FP.i2d i1))), .second, .val (.int (own_cs (FP.i2d i0) (FP.dneg (FP.i2d i1))))] [(.int (1 : Int32))])) (fun t k => XS.goto X2.here hx rfl (pc0 := 125) (pc' := 129) rfl (hb hby at_125) (by decide) (by decide) k) ?_
          exact own_end X2 (v := some (.int (1 : Int32))) (fun h => by rw [Bd.returns] at h; cases h) (BodyLoose.notSynchronized Bd) (Q := (Q_rm0 Z i0 i1 i2 h0 n0)) (fun fs hr => retN X2 hx (t := .boolean) Bd.returns (by simp) (hb hby at_129) hr) (show (Q_rm0 Z i0 i1 i2 h0 n0) _ T2.heap _ from (by rw [ec2]; exact ⟨rfl, Nf⟩)) (by decide) (by decide)
        · refine own_by (B := T2.setTop (mkF m 130 #[.val (.int i0), .val (.int i1), .val (.int i2), .val (.int (0 : Int32)), .val (.int (1 : Int32)), .val (.long (i0.toInt64)), .second, .val (.long (-(i1.toInt64))), .second, .val (.double (FP.i2d i0)), .second, .val (.double (FP.dneg (FP.i2d i1))), .second, .val (.int (own_cs (FP.i2d i0) (FP.dneg (FP.i2d i1))))] [])) (fun t k => XS.ifYes X2.here hx rfl (pc0 := 116) (pc' := 130) rfl (hb hby at_116) rfl ((if0 _ _).trans (flt hc116).2.1) (by decide) (by decide) k) ?_
          refine own_by (B := T2.setTop (mkF m 132 #[.val (.int i0), .val (.int i1), .val (.int i2), .val (.int (0 : Int32)), .val (.int (1 : Int32)), .val (.long (i0.toInt64)), .second, .val (.long (-(i1.toInt64))), .second, .val (.double (FP.i2d i0)), .second, .val (.double (FP.dneg (FP.i2d i1))), .second, .val (.int (own_cs (FP.i2d i0) (FP.dneg (FP.i2d i1))))] [(.int (own_cs (FP.i2d i0) (FP.dneg (FP.i2d i1))))])) (fun t k => XS.iload X2.here hx rfl (hb hby at_130) rfl k) ?_
          have hv : (own_cs (FP.i2d i0) (FP.dneg (FP.i2d i1))) = (0 : Int32) := by rw [own_cs_val (own_repP i0) (own_repN i1), if_neg hc97, if_neg hc116]
          refine own_by (B := T2.setTop (mkF m 135 #[.val (.int i0), .val (.int i1), .val (.int i2), .val (.int (0 : Int32)), .val (.int (1 : Int32)), .val (.long (i0.toInt64)), .second, .val (.long (-(i1.toInt64))), .second, .val (.double (FP.i2d i0)), .second, .val (.double (FP.dneg (FP.i2d i1))), .second, .val (.int (own_cs (FP.i2d i0) (FP.dneg (FP.i2d i1))))] [])) (fun t k => XS.ifNo X2.here hx rfl (hb hby at_132) rfl ((if0 _ _).trans (teq hv).2) k) ?_
          refine own_by (B := T2.setTop (mkF m 136 #[.val (.int i0), .val (.int i1), .val (.int i2), .val (.int (0 : Int32)), .val (.int (1 : Int32)), .val (.long (i0.toInt64)), .second, .val (.long (-(i1.toInt64))), .second, .val (.double (FP.i2d i0)), .second, .val (.double (FP.dneg (FP.i2d i1))), .second, .val (.int (own_cs (FP.i2d i0) (FP.dneg (FP.i2d i1))))] [(.int (1 : Int32))])) (fun t k => XS.iconst X2.here hx rfl (hb hby at_135) k) ?_
          refine own_by (B := T2.setTop (mkF m 140 #[.val (.int i0), .val (.int i1), .val (.int i2), .val (.int (0 : Int32)), .val (.int (1 : Int32)), .val (.long (i0.toInt64)), .second, .val (.long (-(i1.toInt64))), .second, .val (.double (FP.i2d i0)), .second, .val (.double (FP.dneg (FP.i2d i1))), .second, .val (.int (own_cs (FP.i2d i0) (FP.dneg (FP.i2d i1))))] [(.int (1 : Int32))])) (fun t k => XS.goto X2.here hx rfl (pc0 := 136) (pc' := 140) rfl (hb hby at_136) (by decide) (by decide) k) ?_
          exact own_end X2 (v := some (.int (1 : Int32))) (fun h => by rw [Bd.returns] at h; cases h) (BodyLoose.notSynchronized Bd) (Q := (Q_rm0 Z i0 i1 i2 h0 n0)) (fun fs hr => retN X2 hx (t := .boolean) Bd.returns (by simp) (hb hby at_140) hr) (show (Q_rm0 Z i0 i1 i2 h0 n0) _ T2.heap _ from (by rw [ec2]; exact ⟨rfl, Nf⟩)) (by decide) (by decide)
  · refine own_by (B := s₁.setTop (mkF m 6 #[.val (.int i0), .val (.int i1), .val (.int i2), .unset, .unset, .unset, .unset, .unset, .unset, .unset, .unset, .unset, .unset, .unset] [])) (fun t k => XS.ifNo X0.here hx rfl (hb hby at_3) rfl ((if0 _ _).trans (feq hc3).1) k) ?_
    refine own_by (B := s₁.setTop (mkF m 7 #[.val (.int i0), .val (.int i1), .val (.int i2), .unset, .unset, .unset, .unset, .unset, .unset, .unset, .unset, .unset, .unset, .unset] [(.int (1 : Int32))])) (fun t k => XS.iconst X0.here hx rfl (hb hby at_6) k) ?_
    refine own_by (B := s₁.setTop (mkF m 11 #[.val (.int i0), .val (.int i1), .val (.int i2), .unset, .unset, .unset, .unset, .unset, .unset, .unset, .unset, .unset, .unset, .unset] [(.int (1 : Int32))])) (fun t k => XS.goto X0.here hx rfl (pc0 := 7) (pc' := 11) rfl (hb hby at_7) (by decide) (by decide) k) ?_
    refine own_by (B := s₁.setTop (mkF m 12 #[.val (.int i0), .val (.int i1), .val (.int i2), .val (.int (1 : Int32)), .unset, .unset, .unset, .unset, .unset, .unset, .unset, .unset, .unset, .unset] [])) (fun t k => XS.istoreN X0.here hx rfl (hb hby at_11) rfl (l' := #[.val (.int i0), .val (.int i1), .val (.int i2), .val (.int (1 : Int32)), .unset, .unset, .unset, .unset, .unset, .unset, .unset, .unset, .unset, .unset]) rfl k) ?_
    refine own_by (B := s₁.setTop (mkF m 13 #[.val (.int i0), .val (.int i1), .val (.int i2), .val (.int (1 : Int32)), .unset, .unset, .unset, .unset, .unset, .unset, .unset, .unset, .unset, .unset] [(.int i2)])) (fun t k => XS.iloadN X0.here hx rfl (hb hby at_12) rfl k) ?_
    refine own_by (B := s₁.setTop (mkF m 14 #[.val (.int i0), .val (.int i1), .val (.int i2), .val (.int (1 : Int32)), .unset, .unset, .unset, .unset, .unset, .unset, .unset, .unset, .unset, .unset] [(.int (2 : Int32)), (.int i2)])) (fun t k => XS.iconst X0.here hx rfl (hb hby at_13) k) ?_
    refine own_by (B := s₁.setTop (mkF m 15 #[.val (.int i0), .val (.int i1), .val (.int i2), .val (.int (1 : Int32)), .unset, .unset, .unset, .unset, .unset, .unset, .unset, .unset, .unset, .unset] [(.int (i2 &&& (2 : Int32)))])) (fun t k => XS.iand X0.here hx rfl (hb hby at_14) rfl k) ?_
    by_cases hc15 : (i2 &&& (2 : Int32)) = (0 : Int32)
    · refine own_by (B := s₁.setTop (mkF m 22 #[.val (.int i0), .val (.int i1), .val (.int i2), .val (.int (1 : Int32)), .unset, .unset, .unset, .unset, .unset, .unset, .unset, .unset, .unset, .unset] [])) (fun t k => XS.ifYes X0.here hx rfl (pc0 := 15) (pc' := 22) rfl (hb hby at_15) rfl ((if0 _ _).trans (teq hc15).1) (by decide) (by decide) k) ?_
      refine own_by (B := s₁.setTop (mkF m 23 #[.val (.int i0), .val (.int i1), .val (.int i2), .val (.int (1 : Int32)), .unset, .unset, .unset, .unset, .unset, .unset, .unset, .unset, .unset, .unset] [(.int (0 : Int32))])) (fun t k => XS.iconst X0.here hx rfl (hb hby at_22) k) ?_
      refine own_by (B := s₁.setTop (mkF m 25 #[.val (.int i0), .val (.int i1), .val (.int i2), .val (.int (1 : Int32)), .val (.int (0 : Int32)), .unset, .unset, .unset, .unset, .unset, .unset, .unset, .unset, .unset] [])) (fun t k => XS.istore X0.here hx rfl (hb hby at_23) rfl (l' := #[.val (.int i0), .val (.int i1), .val (.int i2), .val (.int (1 : Int32)), .val (.int (0 : Int32)), .unset, .unset, .unset, .unset, .unset, .unset, .unset, .unset, .unset]) rfl k) ?_
      refine own_by (B := s₁.setTop (mkF m 26 #[.val (.int i0), .val (.int i1), .val (.int i2), .val (.int (1 : Int32)), .val (.int (0 : Int32)), .unset, .unset, .unset, .unset, .unset, .unset, .unset, .unset, .unset] [(.int (1 : Int32))])) (fun t k => XS.iloadN X0.here hx rfl (hb hby at_25) rfl k) ?_
      refine own_by (B := s₁.setTop (mkF m 29 #[.val (.int i0), .val (.int i1), .val (.int i2), .val (.int (1 : Int32)), .val (.int (0 : Int32)), .unset, .unset, .unset, .unset, .unset, .unset, .unset, .unset, .unset] [])) (fun t k => XS.ifNo X0.here hx rfl (hb hby at_26) rfl ((if0 _ _).trans (feq (by decide)).1) k) ?_
      refine own_by (B := s₁.setTop (mkF m 30 #[.val (.int i0), .val (.int i1), .val (.int i2), .val (.int (1 : Int32)), .val (.int (0 : Int32)), .unset, .unset, .unset, .unset, .unset, .unset, .unset, .unset, .unset] [(.int i0)])) (fun t k => XS.iloadN X0.here hx rfl (hb hby at_29) rfl k) ?_
      refine own_by (B := s₁.setTop (mkF m 31 #[.val (.int i0), .val (.int i1), .val (.int i2), .val (.int (1 : Int32)), .val (.int (0 : Int32)), .unset, .unset, .unset, .unset, .unset, .unset, .unset, .unset, .unset] [(.long (i0.toInt64))])) (fun t k => XS.i2l X0.here hx rfl (hb hby at_30) rfl k) ?_
      refine own_by (B := s₁.setTop (mkF m 32 #[.val (.int i0), .val (.int i1), .val (.int i2), .val (.int (1 : Int32)), .val (.int (0 : Int32)), .unset, .unset, .unset, .unset, .unset, .unset, .unset, .unset, .unset] [(.long (-(i0.toInt64)))])) (fun t k => XS.lneg X0.here hx rfl (hb hby at_31) rfl k) ?_
      refine own_by (B := s₁.setTop (mkF m 37 #[.val (.int i0), .val (.int i1), .val (.int i2), .val (.int (1 : Int32)), .val (.int (0 : Int32)), .unset, .unset, .unset, .unset, .unset, .unset, .unset, .unset, .unset] [(.long (-(i0.toInt64)))])) (fun t k => XS.goto X0.here hx rfl (pc0 := 32) (pc' := 37) rfl (hb hby at_32) (by decide) (by decide) k) ?_
      refine own_by (B := s₁.setTop (mkF m 39 #[.val (.int i0), .val (.int i1), .val (.int i2), .val (.int (1 : Int32)), .val (.int (0 : Int32)), .val (.long (-(i0.toInt64))), .second, .unset, .unset, .unset, .unset, .unset, .unset, .unset] [])) (fun t k => XS.lstore X0.here hx rfl (hb hby at_37) rfl (l' := #[.val (.int i0), .val (.int i1), .val (.int i2), .val (.int (1 : Int32)), .val (.int (0 : Int32)), .val (.long (-(i0.toInt64))), .second, .unset, .unset, .unset, .unset, .unset, .unset, .unset]) rfl k) ?_
      refine own_by (B := s₁.setTop (mkF m 41 #[.val (.int i0), .val (.int i1), .val (.int i2), .val (.int (1 : Int32)), .val (.int (0 : Int32)), .val (.long (-(i0.toInt64))), .second, .unset, .unset, .unset, .unset, .unset, .unset, .unset] [(.int (0 : Int32))])) (fun t k => XS.iload X0.here hx rfl (hb hby at_39) rfl k) ?_
      refine own_by (B := s₁.setTop (mkF m 50 #[.val (.int i0), .val (.int i1), .val (.int i2), .val (.int (1 : Int32)), .val (.int (0 : Int32)), .val (.long (-(i0.toInt64))), .second, .unset, .unset, .unset, .unset, .unset, .unset, .unset] [])) (fun t k => XS.ifYes X0.here hx rfl (pc0 := 41) (pc' := 50) rfl (hb hby at_41) rfl ((if0 _ _).trans (teq (by decide)).1) (by decide) (by decide) k) ?_
      refine own_by (B := s₁.setTop (mkF m 51 #[.val (.int i0), .val (.int i1), .val (.int i2), .val (.int (1 : Int32)), .val (.int (0 : Int32)), .val (.long (-(i0.toInt64))), .second, .unset, .unset, .unset, .unset, .unset, .unset, .unset] [(.int i1)])) (fun t k => XS.iloadN X0.here hx rfl (hb hby at_50) rfl k) ?_
      refine own_by (B := s₁.setTop (mkF m 52 #[.val (.int i0), .val (.int i1), .val (.int i2), .val (.int (1 : Int32)), .val (.int (0 : Int32)), .val (.long (-(i0.toInt64))), .second, .unset, .unset, .unset, .unset, .unset, .unset, .unset] [(.long (i1.toInt64))])) (fun t k => XS.i2l X0.here hx rfl (hb hby at_51) rfl k) ?_
      refine own_by (B := s₁.setTop (mkF m 54 #[.val (.int i0), .val (.int i1), .val (.int i2), .val (.int (1 : Int32)), .val (.int (0 : Int32)), .val (.long (-(i0.toInt64))), .second, .val (.long (i1.toInt64)), .second, .unset, .unset, .unset, .unset, .unset] [])) (fun t k => XS.lstore X0.here hx rfl (hb hby at_52) rfl (l' := #[.val (.int i0), .val (.int i1), .val (.int i2), .val (.int (1 : Int32)), .val (.int (0 : Int32)), .val (.long (-(i0.toInt64))), .second, .val (.long (i1.toInt64)), .second, .unset, .unset, .unset, .unset, .unset]) rfl k) ?_
      refine own_by (B := s₁.setTop (mkF m 55 #[.val (.int i0), .val (.int i1), .val (.int i2), .val (.int (1 : Int32)), .val (.int (0 : Int32)), .val (.long (-(i0.toInt64))), .second, .val (.long (i1.toInt64)), .second, .unset, .unset, .unset, .unset, .unset] [(.int (1 : Int32))])) (fun t k => XS.iloadN X0.here hx rfl (hb hby at_54) rfl k) ?_
      refine own_by (B := s₁.setTop (mkF m 58 #[.val (.int i0), .val (.int i1), .val (.int i2), .val (.int (1 : Int32)), .val (.int (0 : Int32)), .val (.long (-(i0.toInt64))), .second, .val (.long (i1.toInt64)), .second, .unset, .unset, .unset, .unset, .unset] [])) (fun t k => XS.ifNo X0.here hx rfl (hb hby at_55) rfl ((if0 _ _).trans (feq (by decide)).1) k) ?_
      refine own_by (B := s₁.setTop (mkF m 59 #[.val (.int i0), .val (.int i1), .val (.int i2), .val (.int (1 : Int32)), .val (.int (0 : Int32)), .val (.long (-(i0.toInt64))), .second, .val (.long (i1.toInt64)), .second, .unset, .unset, .unset, .unset, .unset] [(.int i0)])) (fun t k => XS.iloadN X0.here hx rfl (hb hby at_58) rfl k) ?_
      refine own_by (B := s₁.setTop (mkF m 60 #[.val (.int i0), .val (.int i1), .val (.int i2), .val (.int (1 : Int32)), .val (.int (0 : Int32)), .val (.long (-(i0.toInt64))), .second, .val (.long (i1.toInt64)), .second, .unset, .unset, .unset, .unset, .unset] [(.double (FP.i2d i0))])) (fun t k => own_i2d X0.here hx rfl (hb hby at_59) rfl k) ?_
      refine own_by (B := s₁.setTop (mkF m 61 #[.val (.int i0), .val (.int i1), .val (.int i2), .val (.int (1 : Int32)), .val (.int (0 : Int32)), .val (.long (-(i0.toInt64))), .second, .val (.long (i1.toInt64)), .second, .unset, .unset, .unset, .unset, .unset] [(.double (FP.dneg (FP.i2d i0)))])) (fun t k => own_dneg X0.here hx rfl (hb hby at_60) rfl k) ?_
      refine own_by (B := s₁.setTop (mkF m 66 #[.val (.int i0), .val (.int i1), .val (.int i2), .val (.int (1 : Int32)), .val (.int (0 : Int32)), .val (.long (-(i0.toInt64))), .second, .val (.long (i1.toInt64)), .second, .unset, .unset, .unset, .unset, .unset] [(.double (FP.dneg (FP.i2d i0)))])) (fun t k => XS.goto X0.here hx rfl (pc0 := 61) (pc' := 66) rfl (hb hby at_61) (by decide) (by decide) k) ?_
      refine own_by (B := s₁.setTop (mkF m 68 #[.val (.int i0), .val (.int i1), .val (.int i2), .val (.int (1 : Int32)), .val (.int (0 : Int32)), .val (.long (-(i0.toInt64))), .second, .val (.long (i1.toInt64)), .second, .val (.double (FP.dneg (FP.i2d i0))), .second, .unset, .unset, .unset] [])) (fun t k => own_dstore X0.here hx rfl (hb hby at_66) rfl (l' := #[.val (.int i0), .val (.int i1), .val (.int i2), .val (.int (1 : Int32)), .val (.int (0 : Int32)), .val (.long (-(i0.toInt64))), .second, .val (.long (i1.toInt64)), .second, .val (.double (FP.dneg (FP.i2d i0))), .second, .unset, .unset, .unset]) rfl k) ?_
      refine own_by (B := s₁.setTop (mkF m 70 #[.val (.int i0), .val (.int i1), .val (.int i2), .val (.int (1 : Int32)), .val (.int (0 : Int32)), .val (.long (-(i0.toInt64))), .second, .val (.long (i1.toInt64)), .second, .val (.double (FP.dneg (FP.i2d i0))), .second, .unset, .unset, .unset] [(.int (0 : Int32))])) (fun t k => XS.iload X0.here hx rfl (hb hby at_68) rfl k) ?_
      refine own_by (B := s₁.setTop (mkF m 79 #[.val (.int i0), .val (.int i1), .val (.int i2), .val (.int (1 : Int32)), .val (.int (0 : Int32)), .val (.long (-(i0.toInt64))), .second, .val (.long (i1.toInt64)), .second, .val (.double (FP.dneg (FP.i2d i0))), .second, .unset, .unset, .unset] [])) (fun t k => XS.ifYes X0.here hx rfl (pc0 := 70) (pc' := 79) rfl (hb hby at_70) rfl ((if0 _ _).trans (teq (by decide)).1) (by decide) (by decide) k) ?_
      refine own_by (B := s₁.setTop (mkF m 80 #[.val (.int i0), .val (.int i1), .val (.int i2), .val (.int (1 : Int32)), .val (.int (0 : Int32)), .val (.long (-(i0.toInt64))), .second, .val (.long (i1.toInt64)), .second, .val (.double (FP.dneg (FP.i2d i0))), .second, .unset, .unset, .unset] [(.int i1)])) (fun t k => XS.iloadN X0.here hx rfl (hb hby at_79) rfl k) ?_
      refine own_by (B := s₁.setTop (mkF m 81 #[.val (.int i0), .val (.int i1), .val (.int i2), .val (.int (1 : Int32)), .val (.int (0 : Int32)), .val (.long (-(i0.toInt64))), .second, .val (.long (i1.toInt64)), .second, .val (.double (FP.dneg (FP.i2d i0))), .second, .unset, .unset, .unset] [(.double (FP.i2d i1))])) (fun t k => own_i2d X0.here hx rfl (hb hby at_80) rfl k) ?_
      refine own_by (B := s₁.setTop (mkF m 83 #[.val (.int i0), .val (.int i1), .val (.int i2), .val (.int (1 : Int32)), .val (.int (0 : Int32)), .val (.long (-(i0.toInt64))), .second, .val (.long (i1.toInt64)), .second, .val (.double (FP.dneg (FP.i2d i0))), .second, .val (.double (FP.i2d i1)), .second, .unset] [])) (fun t k => own_dstore X0.here hx rfl (hb hby at_81) rfl (l' := #[.val (.int i0), .val (.int i1), .val (.int i2), .val (.int (1 : Int32)), .val (.int (0 : Int32)), .val (.long (-(i0.toInt64))), .second, .val (.long (i1.toInt64)), .second, .val (.double (FP.dneg (FP.i2d i0))), .second, .val (.double (FP.i2d i1)), .second, .unset]) rfl k) ?_
      refine own_by (B := s₁.setTop (mkF m 85 #[.val (.int i0), .val (.int i1), .val (.int i2), .val (.int (1 : Int32)), .val (.int (0 : Int32)), .val (.long (-(i0.toInt64))), .second, .val (.long (i1.toInt64)), .second, .val (.double (FP.dneg (FP.i2d i0))), .second, .val (.double (FP.i2d i1)), .second, .unset] [(.double (FP.dneg (FP.i2d i0)))])) (fun t k => own_dload X0.here hx rfl (hb hby at_83) rfl k) ?_
      refine own_by (B := s₁.setTop (mkF m 87 #[.val (.int i0), .val (.int i1), .val (.int i2), .val (.int (1 : Int32)), .val (.int (0 : Int32)), .val (.long (-(i0.toInt64))), .second, .val (.long (i1.toInt64)), .second, .val (.double (FP.dneg (FP.i2d i0))), .second, .val (.double (FP.i2d i1)), .second, .unset] [(.double (FP.i2d i1)), (.double (FP.dneg (FP.i2d i0)))])) (fun t k => own_dload X0.here hx rfl (hb hby at_85) rfl k) ?_
      obtain ⟨_, _, ⟨T3, L3, k3, n3⟩, -, X3, ⟨Lc3, hQ3, l3, y3, z3⟩, st3⟩ := Jvm.LawKit.callS X0 hx (y := (⟨"com/example/surrogate/surrogate/search/Hit", "compareScores", "(DD)I"⟩ : MethodName)) hown (mvT hZ (hw _ (List.mem_of_getElem? (i := 0) rfl))) (mvT hZ (hw _ (List.mem_of_getElem? (i := 1) rfl))) (mvT hZ (hw _ (List.mem_of_getElem? (i := 2) rfl))) (mvT hZ (hw _ (List.mem_of_getElem? (i := 3) rfl))) (by decide) (backOf (W := 0) (rm1 l Z a0 hw [] (FP.dneg (FP.i2d i0)) (FP.i2d i1) h0 n0 Zs) hZ (hw _ (List.mem_of_getElem? (i := 3) rfl)) (hw _ (List.mem_of_getElem? (i := 2) rfl)) (by decide) (by decide)) (g := (mkF m 87 #[.val (.int i0), .val (.int i1), .val (.int i2), .val (.int (1 : Int32)), .val (.int (0 : Int32)), .val (.long (-(i0.toInt64))), .second, .val (.long (i1.toInt64)), .second, .val (.double (FP.dneg (FP.i2d i0))), .second, .val (.double (FP.i2d i1)), .second, .unset] [(.double (FP.i2d i1)), (.double (FP.dneg (FP.i2d i0)))])) rfl (by rw [hml]; rfl) (argsL := [(.double (FP.dneg (FP.i2d i0))), (.double (FP.i2d i1))]) (rest := []) (lenOf own_pd0 rfl) rfl (by show 2 * 0 + _ ≤ _; exact Nat.le_of_eq rfl) (hb hby at_87) (fun _ _ => ⟨rfl, e0, (by decide : 0 + 0 ≤ _), (by decide : 0 + 0 ≤ _)⟩)
      dsimp only [Pt.U, Pt.locs, Pt.cells, Pt.slots] at X3 l3 y3 z3 st3 hQ3
      subst l3 y3 z3
      obtain ⟨rfl, Nq3, hp3⟩ := hQ3
      have Nf := Fr.app Nf Nq3
      have ec3 : T3.heap = h0 := hp3
      refine own_by (B := T3.setTop (mkF m 90 #[.val (.int i0), .val (.int i1), .val (.int i2), .val (.int (1 : Int32)), .val (.int (0 : Int32)), .val (.long (-(i0.toInt64))), .second, .val (.long (i1.toInt64)), .second, .val (.double (FP.dneg (FP.i2d i0))), .second, .val (.double (FP.i2d i1)), .second, .unset] [(.int (own_cs (FP.dneg (FP.i2d i0)) (FP.i2d i1)))])) st3 ?_
      refine own_by (B := T3.setTop (mkF m 92 #[.val (.int i0), .val (.int i1), .val (.int i2), .val (.int (1 : Int32)), .val (.int (0 : Int32)), .val (.long (-(i0.toInt64))), .second, .val (.long (i1.toInt64)), .second, .val (.double (FP.dneg (FP.i2d i0))), .second, .val (.double (FP.i2d i1)), .second, .val (.int (own_cs (FP.dneg (FP.i2d i0)) (FP.i2d i1)))] [])) (fun t k => XS.istore X3.here hx rfl (hb hby at_90) rfl (l' := #[.val (.int i0), .val (.int i1), .val (.int i2), .val (.int (1 : Int32)), .val (.int (0 : Int32)), .val (.long (-(i0.toInt64))), .second, .val (.long (i1.toInt64)), .second, .val (.double (FP.dneg (FP.i2d i0))), .second, .val (.double (FP.i2d i1)), .second, .val (.int (own_cs (FP.dneg (FP.i2d i0)) (FP.i2d i1)))]) rfl k) ?_
      refine own_by (B := T3.setTop (mkF m 94 #[.val (.int i0), .val (.int i1), .val (.int i2), .val (.int (1 : Int32)), .val (.int (0 : Int32)), .val (.long (-(i0.toInt64))), .second, .val (.long (i1.toInt64)), .second, .val (.double (FP.dneg (FP.i2d i0))), .second, .val (.double (FP.i2d i1)), .second, .val (.int (own_cs (FP.dneg (FP.i2d i0)) (FP.i2d i1)))] [(.long (-(i0.toInt64)))])) (fun t k => XS.lload X3.here hx rfl (hb hby at_92) rfl k) ?_
      refine own_by (B := T3.setTop (mkF m 96 #[.val (.int i0), .val (.int i1), .val (.int i2), .val (.int (1 : Int32)), .val (.int (0 : Int32)), .val (.long (-(i0.toInt64))), .second, .val (.long (i1.toInt64)), .second, .val (.double (FP.dneg (FP.i2d i0))), .second, .val (.double (FP.i2d i1)), .second, .val (.int (own_cs (FP.dneg (FP.i2d i0)) (FP.i2d i1)))] [(.long (i1.toInt64)), (.long (-(i0.toInt64)))])) (fun t k => XS.lload X3.here hx rfl (hb hby at_94) rfl k) ?_
      refine own_by (B := T3.setTop (mkF m 97 #[.val (.int i0), .val (.int i1), .val (.int i2), .val (.int (1 : Int32)), .val (.int (0 : Int32)), .val (.long (-(i0.toInt64))), .second, .val (.long (i1.toInt64)), .second, .val (.double (FP.dneg (FP.i2d i0))), .second, .val (.double (FP.i2d i1)), .second, .val (.int (own_cs (FP.dneg (FP.i2d i0)) (FP.i2d i1)))] [(.int (lcmpW (-(i0.toInt64)) (i1.toInt64)))])) (fun t k => XS.lcmp X3.here hx rfl (hb hby at_96) rfl k) ?_
      by_cases hc97 : (0 : Int32) < (lcmpW (-(i0.toInt64)) (i1.toInt64))
      · refine own_by (B := T3.setTop (mkF m 100 #[.val (.int i0), .val (.int i1), .val (.int i2), .val (.int (1 : Int32)), .val (.int (0 : Int32)), .val (.long (-(i0.toInt64))), .second, .val (.long (i1.toInt64)), .second, .val (.double (FP.dneg (FP.i2d i0))), .second, .val (.double (FP.i2d i1)), .second, .val (.int (own_cs (FP.dneg (FP.i2d i0)) (FP.i2d i1)))] [])) (fun t k => XS.ifNo X3.here hx rfl (hb hby at_97) rfl ((if0 _ _).trans (tlt hc97).2.2.2) k) ?_
        refine own_by (B := T3.setTop (mkF m 102 #[.val (.int i0), .val (.int i1), .val (.int i2), .val (.int (1 : Int32)), .val (.int (0 : Int32)), .val (.long (-(i0.toInt64))), .second, .val (.long (i1.toInt64)), .second, .val (.double (FP.dneg (FP.i2d i0))), .second, .val (.double (FP.i2d i1)), .second, .val (.int (own_cs (FP.dneg (FP.i2d i0)) (FP.i2d i1)))] [(.int (own_cs (FP.dneg (FP.i2d i0)) (FP.i2d i1)))])) (fun t k => XS.iload X3.here hx rfl (hb hby at_100) rfl k) ?_
        have hv : (own_cs (FP.dneg (FP.i2d i0)) (FP.i2d i1)) = (-1 : Int32) := by rw [own_cs_val (own_repN i0) (own_repP i1), if_pos hc97]
        refine own_by (B := T3.setTop (mkF m 105 #[.val (.int i0), .val (.int i1), .val (.int i2), .val (.int (1 : Int32)), .val (.int (0 : Int32)), .val (.long (-(i0.toInt64))), .second, .val (.long (i1.toInt64)), .second, .val (.double (FP.dneg (FP.i2d i0))), .second, .val (.double (FP.i2d i1)), .second, .val (.int (own_cs (FP.dneg (FP.i2d i0)) (FP.i2d i1)))] [])) (fun t k => XS.ifNo X3.here hx rfl (hb hby at_102) rfl ((if0 _ _).trans (tlt (by rw [hv]; decide)).2.1) k) ?_
        refine own_by (B := T3.setTop (mkF m 106 #[.val (.int i0), .val (.int i1), .val (.int i2), .val (.int (1 : Int32)), .val (.int (0 : Int32)), .val (.long (-(i0.toInt64))), .second, .val (.long (i1.toInt64)), .second, .val (.double (FP.dneg (FP.i2d i0))), .second, .val (.double (FP.i2d i1)), .second, .val (.int (own_cs (FP.dneg (FP.i2d i0)) (FP.i2d i1)))] [(.int (1 : Int32))])) (fun t k => XS.iconst X3.here hx rfl (hb hby at_105) k) ?_
        refine own_by (B := T3.setTop (mkF m 110 #[.val (.int i0), .val (.int i1), .val (.int i2), .val (.int (1 : Int32)), .val (.int (0 : Int32)), .val (.long (-(i0.toInt64))), .second, .val (.long (i1.toInt64)), .second, .val (.double (FP.dneg (FP.i2d i0))), .second, .val (.double (FP.i2d i1)), .second, .val (.int (own_cs (FP.dneg (FP.i2d i0)) (FP.i2d i1)))] [(.int (1 : Int32))])) (fun t k => XS.goto X3.here hx rfl (pc0 := 106) (pc' := 110) rfl (hb hby at_106) (by decide) (by decide) k) ?_
        exact own_end X3 (v := some (.int (1 : Int32))) (fun h => by rw [Bd.returns] at h; cases h) (BodyLoose.notSynchronized Bd) (Q := (Q_rm0 Z i0 i1 i2 h0 n0)) (fun fs hr => retN X3 hx (t := .boolean) Bd.returns (by simp) (hb hby at_110) hr) (show (Q_rm0 Z i0 i1 i2 h0 n0) _ T3.heap _ from (by rw [ec3]; exact ⟨rfl, Nf⟩)) (by decide) (by decide)
      · refine own_by (B := T3.setTop (mkF m 111 #[.val (.int i0), .val (.int i1), .val (.int i2), .val (.int (1 : Int32)), .val (.int (0 : Int32)), .val (.long (-(i0.toInt64))), .second, .val (.long (i1.toInt64)), .second, .val (.double (FP.dneg (FP.i2d i0))), .second, .val (.double (FP.i2d i1)), .second, .val (.int (own_cs (FP.dneg (FP.i2d i0)) (FP.i2d i1)))] [])) (fun t k => XS.ifYes X3.here hx rfl (pc0 := 97) (pc' := 111) rfl (hb hby at_97) rfl ((if0 _ _).trans (flt hc97).2.2.2) (by decide) (by decide) k) ?_
        refine own_by (B := T3.setTop (mkF m 113 #[.val (.int i0), .val (.int i1), .val (.int i2), .val (.int (1 : Int32)), .val (.int (0 : Int32)), .val (.long (-(i0.toInt64))), .second, .val (.long (i1.toInt64)), .second, .val (.double (FP.dneg (FP.i2d i0))), .second, .val (.double (FP.i2d i1)), .second, .val (.int (own_cs (FP.dneg (FP.i2d i0)) (FP.i2d i1)))] [(.long (-(i0.toInt64)))])) (fun t k => XS.lload X3.here hx rfl (hb hby at_111) rfl k) ?_
        refine own_by (B := T3.setTop (mkF m 115 #[.val (.int i0), .val (.int i1), .val (.int i2), .val (.int (1 : Int32)), .val (.int (0 : Int32)), .val (.long (-(i0.toInt64))), .second, .val (.long (i1.toInt64)), .second, .val (.double (FP.dneg (FP.i2d i0))), .second, .val (.double (FP.i2d i1)), .second, .val (.int (own_cs (FP.dneg (FP.i2d i0)) (FP.i2d i1)))] [(.long (i1.toInt64)), (.long (-(i0.toInt64)))])) (fun t k => XS.lload X3.here hx rfl (hb hby at_113) rfl k) ?_
        refine own_by (B := T3.setTop (mkF m 116 #[.val (.int i0), .val (.int i1), .val (.int i2), .val (.int (1 : Int32)), .val (.int (0 : Int32)), .val (.long (-(i0.toInt64))), .second, .val (.long (i1.toInt64)), .second, .val (.double (FP.dneg (FP.i2d i0))), .second, .val (.double (FP.i2d i1)), .second, .val (.int (own_cs (FP.dneg (FP.i2d i0)) (FP.i2d i1)))] [(.int (lcmpW (-(i0.toInt64)) (i1.toInt64)))])) (fun t k => XS.lcmp X3.here hx rfl (hb hby at_115) rfl k) ?_
        by_cases hc116 : (lcmpW (-(i0.toInt64)) (i1.toInt64)) < (0 : Int32)
        · refine own_by (B := T3.setTop (mkF m 119 #[.val (.int i0), .val (.int i1), .val (.int i2), .val (.int (1 : Int32)), .val (.int (0 : Int32)), .val (.long (-(i0.toInt64))), .second, .val (.long (i1.toInt64)), .second, .val (.double (FP.dneg (FP.i2d i0))), .second, .val (.double (FP.i2d i1)), .second, .val (.int (own_cs (FP.dneg (FP.i2d i0)) (FP.i2d i1)))] [])) (fun t k => XS.ifNo X3.here hx rfl (hb hby at_116) rfl ((if0 _ _).trans (tlt hc116).2.1) k) ?_
          refine own_by (B := T3.setTop (mkF m 121 #[.val (.int i0), .val (.int i1), .val (.int i2), .val (.int (1 : Int32)), .val (.int (0 : Int32)), .val (.long (-(i0.toInt64))), .second, .val (.long (i1.toInt64)), .second, .val (.double (FP.dneg (FP.i2d i0))), .second, .val (.double (FP.i2d i1)), .second, .val (.int (own_cs (FP.dneg (FP.i2d i0)) (FP.i2d i1)))] [(.int (own_cs (FP.dneg (FP.i2d i0)) (FP.i2d i1)))])) (fun t k => XS.iload X3.here hx rfl (hb hby at_119) rfl k) ?_
          have hv : (own_cs (FP.dneg (FP.i2d i0)) (FP.i2d i1)) = (1 : Int32) := by rw [own_cs_val (own_repN i0) (own_repP i1), if_neg hc97, if_pos hc116]
          refine own_by (B := T3.setTop (mkF m 124 #[.val (.int i0), .val (.int i1), .val (.int i2), .val (.int (1 : Int32)), .val (.int (0 : Int32)), .val (.long (-(i0.toInt64))), .second, .val (.long (i1.toInt64)), .second, .val (.double (FP.dneg (FP.i2d i0))), .second, .val (.double (FP.i2d i1)), .second, .val (.int (own_cs (FP.dneg (FP.i2d i0)) (FP.i2d i1)))] [])) (fun t k => XS.ifNo X3.here hx rfl (hb hby at_121) rfl ((if0 _ _).trans (tlt (by rw [hv]; decide)).2.2.2) k) ?_
          refine own_by (B := T3.setTop (mkF m 125 #[.val (.int i0), .val (.int i1), .val (.int i2), .val (.int (1 : Int32)), .val (.int (0 : Int32)), .val (.long (-(i0.toInt64))), .second, .val (.long (i1.toInt64)), .second, .val (.double (FP.dneg (FP.i2d i0))), .second, .val (.double (FP.i2d i1)), .second, .val (.int (own_cs (FP.dneg (FP.i2d i0)) (FP.i2d i1)))] [(.int (1 : Int32))])) (fun t k => XS.iconst X3.here hx rfl (hb hby at_124) k) ?_
          refine own_by (B := T3.setTop (mkF m 129 #[.val (.int i0), .val (.int i1), .val (.int i2), .val (.int (1 : Int32)), .val (.int (0 : Int32)), .val (.long (-(i0.toInt64))), .second, .val (.long (i1.toInt64)), .second, .val (.double (FP.dneg (FP.i2d i0))), .second, .val (.double (FP.i2d i1)), .second, .val (.int (own_cs (FP.dneg (FP.i2d i0)) (FP.i2d i1)))] [(.int (1 : Int32))])) (fun t k => XS.goto X3.here hx rfl (pc0 := 125) (pc' := 129) rfl (hb hby at_125) (by decide) (by decide) k) ?_
          exact own_end X3 (v := some (.int (1 : Int32))) (fun h => by rw [Bd.returns] at h; cases h) (BodyLoose.notSynchronized Bd) (Q := (Q_rm0 Z i0 i1 i2 h0 n0)) (fun fs hr => retN X3 hx (t := .boolean) Bd.returns (by simp) (hb hby at_129) hr) (show (Q_rm0 Z i0 i1 i2 h0 n0) _ T3.heap _ from (by rw [ec3]; exact ⟨rfl, Nf⟩)) (by decide) (by decide)
        · refine own_by (B := T3.setTop (mkF m 130 #[.val (.int i0), .val (.int i1), .val (.int i2), .val (.int (1 : Int32)), .val (.int (0 : Int32)), .val (.long (-(i0.toInt64))), .second, .val (.long (i1.toInt64)), .second, .val (.double (FP.dneg (FP.i2d i0))), .second, .val (.double (FP.i2d i1)), .second, .val (.int (own_cs (FP.dneg (FP.i2d i0)) (FP.i2d i1)))] [])) (fun t k => XS.ifYes X3.here hx rfl (pc0 := 116) (pc' := 130) rfl (hb hby at_116) rfl ((if0 _ _).trans (flt hc116).2.1) (by decide) (by decide) k) ?_
          refine own_by (B := T3.setTop (mkF m 132 #[.val (.int i0), .val (.int i1), .val (.int i2), .val (.int (1 : Int32)), .val (.int (0 : Int32)), .val (.long (-(i0.toInt64))), .second, .val (.long (i1.toInt64)), .second, .val (.double (FP.dneg (FP.i2d i0))), .second, .val (.double (FP.i2d i1)), .second, .val (.int (own_cs (FP.dneg (FP.i2d i0)) (FP.i2d i1)))] [(.int (own_cs (FP.dneg (FP.i2d i0)) (FP.i2d i1)))])) (fun t k => XS.iload X3.here hx rfl (hb hby at_130) rfl k) ?_
          have hv : (own_cs (FP.dneg (FP.i2d i0)) (FP.i2d i1)) = (0 : Int32) := by rw [own_cs_val (own_repN i0) (own_repP i1), if_neg hc97, if_neg hc116]
          refine own_by (B := T3.setTop (mkF m 135 #[.val (.int i0), .val (.int i1), .val (.int i2), .val (.int (1 : Int32)), .val (.int (0 : Int32)), .val (.long (-(i0.toInt64))), .second, .val (.long (i1.toInt64)), .second, .val (.double (FP.dneg (FP.i2d i0))), .second, .val (.double (FP.i2d i1)), .second, .val (.int (own_cs (FP.dneg (FP.i2d i0)) (FP.i2d i1)))] [])) (fun t k => XS.ifNo X3.here hx rfl (hb hby at_132) rfl ((if0 _ _).trans (teq hv).2) k) ?_
          refine own_by (B := T3.setTop (mkF m 136 #[.val (.int i0), .val (.int i1), .val (.int i2), .val (.int (1 : Int32)), .val (.int (0 : Int32)), .val (.long (-(i0.toInt64))), .second, .val (.long (i1.toInt64)), .second, .val (.double (FP.dneg (FP.i2d i0))), .second, .val (.double (FP.i2d i1)), .second, .val (.int (own_cs (FP.dneg (FP.i2d i0)) (FP.i2d i1)))] [(.int (1 : Int32))])) (fun t k => XS.iconst X3.here hx rfl (hb hby at_135) k) ?_
          refine own_by (B := T3.setTop (mkF m 140 #[.val (.int i0), .val (.int i1), .val (.int i2), .val (.int (1 : Int32)), .val (.int (0 : Int32)), .val (.long (-(i0.toInt64))), .second, .val (.long (i1.toInt64)), .second, .val (.double (FP.dneg (FP.i2d i0))), .second, .val (.double (FP.i2d i1)), .second, .val (.int (own_cs (FP.dneg (FP.i2d i0)) (FP.i2d i1)))] [(.int (1 : Int32))])) (fun t k => XS.goto X3.here hx rfl (pc0 := 136) (pc' := 140) rfl (hb hby at_136) (by decide) (by decide) k) ?_
          exact own_end X3 (v := some (.int (1 : Int32))) (fun h => by rw [Bd.returns] at h; cases h) (BodyLoose.notSynchronized Bd) (Q := (Q_rm0 Z i0 i1 i2 h0 n0)) (fun fs hr => retN X3 hx (t := .boolean) Bd.returns (by simp) (hb hby at_140) hr) (show (Q_rm0 Z i0 i1 i2 h0 n0) _ T3.heap _ from (by rw [ec3]; exact ⟨rfl, Nf⟩)) (by decide) (by decide)
    · refine own_by (B := s₁.setTop (mkF m 18 #[.val (.int i0), .val (.int i1), .val (.int i2), .val (.int (1 : Int32)), .unset, .unset, .unset, .unset, .unset, .unset, .unset, .unset, .unset, .unset] [])) (fun t k => XS.ifNo X0.here hx rfl (hb hby at_15) rfl ((if0 _ _).trans (feq hc15).1) k) ?_
      refine own_by (B := s₁.setTop (mkF m 19 #[.val (.int i0), .val (.int i1), .val (.int i2), .val (.int (1 : Int32)), .unset, .unset, .unset, .unset, .unset, .unset, .unset, .unset, .unset, .unset] [(.int (1 : Int32))])) (fun t k => XS.iconst X0.here hx rfl (hb hby at_18) k) ?_
      refine own_by (B := s₁.setTop (mkF m 23 #[.val (.int i0), .val (.int i1), .val (.int i2), .val (.int (1 : Int32)), .unset, .unset, .unset, .unset, .unset, .unset, .unset, .unset, .unset, .unset] [(.int (1 : Int32))])) (fun t k => XS.goto X0.here hx rfl (pc0 := 19) (pc' := 23) rfl (hb hby at_19) (by decide) (by decide) k) ?_
      refine own_by (B := s₁.setTop (mkF m 25 #[.val (.int i0), .val (.int i1), .val (.int i2), .val (.int (1 : Int32)), .val (.int (1 : Int32)), .unset, .unset, .unset, .unset, .unset, .unset, .unset, .unset, .unset] [])) (fun t k => XS.istore X0.here hx rfl (hb hby at_23) rfl (l' := #[.val (.int i0), .val (.int i1), .val (.int i2), .val (.int (1 : Int32)), .val (.int (1 : Int32)), .unset, .unset, .unset, .unset, .unset, .unset, .unset, .unset, .unset]) rfl k) ?_
      refine own_by (B := s₁.setTop (mkF m 26 #[.val (.int i0), .val (.int i1), .val (.int i2), .val (.int (1 : Int32)), .val (.int (1 : Int32)), .unset, .unset, .unset, .unset, .unset, .unset, .unset, .unset, .unset] [(.int (1 : Int32))])) (fun t k => XS.iloadN X0.here hx rfl (hb hby at_25) rfl k) ?_
      refine own_by (B := s₁.setTop (mkF m 29 #[.val (.int i0), .val (.int i1), .val (.int i2), .val (.int (1 : Int32)), .val (.int (1 : Int32)), .unset, .unset, .unset, .unset, .unset, .unset, .unset, .unset, .unset] [])) (fun t k => XS.ifNo X0.here hx rfl (hb hby at_26) rfl ((if0 _ _).trans (feq (by decide)).1) k) ?_
      refine own_by (B := s₁.setTop (mkF m 30 #[.val (.int i0), .val (.int i1), .val (.int i2), .val (.int (1 : Int32)), .val (.int (1 : Int32)), .unset, .unset, .unset, .unset, .unset, .unset, .unset, .unset, .unset] [(.int i0)])) (fun t k => XS.iloadN X0.here hx rfl (hb hby at_29) rfl k) ?_
      refine own_by (B := s₁.setTop (mkF m 31 #[.val (.int i0), .val (.int i1), .val (.int i2), .val (.int (1 : Int32)), .val (.int (1 : Int32)), .unset, .unset, .unset, .unset, .unset, .unset, .unset, .unset, .unset] [(.long (i0.toInt64))])) (fun t k => XS.i2l X0.here hx rfl (hb hby at_30) rfl k) ?_
      refine own_by (B := s₁.setTop (mkF m 32 #[.val (.int i0), .val (.int i1), .val (.int i2), .val (.int (1 : Int32)), .val (.int (1 : Int32)), .unset, .unset, .unset, .unset, .unset, .unset, .unset, .unset, .unset] [(.long (-(i0.toInt64)))])) (fun t k => XS.lneg X0.here hx rfl (hb hby at_31) rfl k) ?_
      refine own_by (B := s₁.setTop (mkF m 37 #[.val (.int i0), .val (.int i1), .val (.int i2), .val (.int (1 : Int32)), .val (.int (1 : Int32)), .unset, .unset, .unset, .unset, .unset, .unset, .unset, .unset, .unset] [(.long (-(i0.toInt64)))])) (fun t k => XS.goto X0.here hx rfl (pc0 := 32) (pc' := 37) rfl (hb hby at_32) (by decide) (by decide) k) ?_
      refine own_by (B := s₁.setTop (mkF m 39 #[.val (.int i0), .val (.int i1), .val (.int i2), .val (.int (1 : Int32)), .val (.int (1 : Int32)), .val (.long (-(i0.toInt64))), .second, .unset, .unset, .unset, .unset, .unset, .unset, .unset] [])) (fun t k => XS.lstore X0.here hx rfl (hb hby at_37) rfl (l' := #[.val (.int i0), .val (.int i1), .val (.int i2), .val (.int (1 : Int32)), .val (.int (1 : Int32)), .val (.long (-(i0.toInt64))), .second, .unset, .unset, .unset, .unset, .unset, .unset, .unset]) rfl k) ?_
      refine own_by (B := s₁.setTop (mkF m 41 #[.val (.int i0), .val (.int i1), .val (.int i2), .val (.int (1 : Int32)), .val (.int (1 : Int32)), .val (.long (-(i0.toInt64))), .second, .unset, .unset, .unset, .unset, .unset, .unset, .unset] [(.int (1 : Int32))])) (fun t k => XS.iload X0.here hx rfl (hb hby at_39) rfl k) ?_
      refine own_by (B := s₁.setTop (mkF m 44 #[.val (.int i0), .val (.int i1), .val (.int i2), .val (.int (1 : Int32)), .val (.int (1 : Int32)), .val (.long (-(i0.toInt64))), .second, .unset, .unset, .unset, .unset, .unset, .unset, .unset] [])) (fun t k => XS.ifNo X0.here hx rfl (hb hby at_41) rfl ((if0 _ _).trans (feq (by decide)).1) k) ?_
      refine own_by (B := s₁.setTop (mkF m 45 #[.val (.int i0), .val (.int i1), .val (.int i2), .val (.int (1 : Int32)), .val (.int (1 : Int32)), .val (.long (-(i0.toInt64))), .second, .unset, .unset, .unset, .unset, .unset, .unset, .unset] [(.int i1)])) (fun t k => XS.iloadN X0.here hx rfl (hb hby at_44) rfl k) ?_
      refine own_by (B := s₁.setTop (mkF m 46 #[.val (.int i0), .val (.int i1), .val (.int i2), .val (.int (1 : Int32)), .val (.int (1 : Int32)), .val (.long (-(i0.toInt64))), .second, .unset, .unset, .unset, .unset, .unset, .unset, .unset] [(.long (i1.toInt64))])) (fun t k => XS.i2l X0.here hx rfl (hb hby at_45) rfl k) ?_
      refine own_by (B := s₁.setTop (mkF m 47 #[.val (.int i0), .val (.int i1), .val (.int i2), .val (.int (1 : Int32)), .val (.int (1 : Int32)), .val (.long (-(i0.toInt64))), .second, .unset, .unset, .unset, .unset, .unset, .unset, .unset] [(.long (-(i1.toInt64)))])) (fun t k => XS.lneg X0.here hx rfl (hb hby at_46) rfl k) ?_
      refine own_by (B := s₁.setTop (mkF m 52 #[.val (.int i0), .val (.int i1), .val (.int i2), .val (.int (1 : Int32)), .val (.int (1 : Int32)), .val (.long (-(i0.toInt64))), .second, .unset, .unset, .unset, .unset, .unset, .unset, .unset] [(.long (-(i1.toInt64)))])) (fun t k => XS.goto X0.here hx rfl (pc0 := 47) (pc' := 52) rfl (hb hby at_47) (by decide) (by decide) k) ?_
      refine own_by (B := s₁.setTop (mkF m 54 #[.val (.int i0), .val (.int i1), .val (.int i2), .val (.int (1 : Int32)), .val (.int (1 : Int32)), .val (.long (-(i0.toInt64))), .second, .val (.long (-(i1.toInt64))), .second, .unset, .unset, .unset, .unset, .unset] [])) (fun t k => XS.lstore X0.here hx rfl (hb hby at_52) rfl (l' := #[.val (.int i0), .val (.int i1), .val (.int i2), .val (.int (1 : Int32)), .val (.int (1 : Int32)), .val (.long (-(i0.toInt64))), .second, .val (.long (-(i1.toInt64))), .second, .unset, .unset, .unset, .unset, .unset]) rfl k) ?_
      refine own_by (B := s₁.setTop (mkF m 55 #[.val (.int i0), .val (.int i1), .val (.int i2), .val (.int (1 : Int32)), .val (.int (1 : Int32)), .val (.long (-(i0.toInt64))), .second, .val (.long (-(i1.toInt64))), .second, .unset, .unset, .unset, .unset, .unset] [(.int (1 : Int32))])) (fun t k => XS.iloadN X0.here hx rfl (hb hby at_54) rfl k) ?_
      refine own_by (B := s₁.setTop (mkF m 58 #[.val (.int i0), .val (.int i1), .val (.int i2), .val (.int (1 : Int32)), .val (.int (1 : Int32)), .val (.long (-(i0.toInt64))), .second, .val (.long (-(i1.toInt64))), .second, .unset, .unset, .unset, .unset, .unset] [])) (fun t k => XS.ifNo X0.here hx rfl (hb hby at_55) rfl ((if0 _ _).trans (feq (by decide)).1) k) ?_
      refine own_by (B := s₁.setTop (mkF m 59 #[.val (.int i0), .val (.int i1), .val (.int i2), .val (.int (1 : Int32)), .val (.int (1 : Int32)), .val (.long (-(i0.toInt64))), .second, .val (.long (-(i1.toInt64))), .second, .unset, .unset, .unset, .unset, .unset] [(.int i0)])) (fun t k => XS.iloadN X0.here hx rfl (hb hby at_58) rfl k) ?_
      refine own_by (B := s₁.setTop (mkF m 60 #[.val (.int i0), .val (.int i1), .val (.int i2), .val (.int (1 : Int32)), .val (.int (1 : Int32)), .val (.long (-(i0.toInt64))), .second, .val (.long (-(i1.toInt64))), .second, .unset, .unset, .unset, .unset, .unset] [(.double (FP.i2d i0))])) (fun t k => own_i2d X0.here hx rfl (hb hby at_59) rfl k) ?_
      refine own_by (B := s₁.setTop (mkF m 61 #[.val (.int i0), .val (.int i1), .val (.int i2), .val (.int (1 : Int32)), .val (.int (1 : Int32)), .val (.long (-(i0.toInt64))), .second, .val (.long (-(i1.toInt64))), .second, .unset, .unset, .unset, .unset, .unset] [(.double (FP.dneg (FP.i2d i0)))])) (fun t k => own_dneg X0.here hx rfl (hb hby at_60) rfl k) ?_
      refine own_by (B := s₁.setTop (mkF m 66 #[.val (.int i0), .val (.int i1), .val (.int i2), .val (.int (1 : Int32)), .val (.int (1 : Int32)), .val (.long (-(i0.toInt64))), .second, .val (.long (-(i1.toInt64))), .second, .unset, .unset, .unset, .unset, .unset] [(.double (FP.dneg (FP.i2d i0)))])) (fun t k => XS.goto X0.here hx rfl (pc0 := 61) (pc' := 66) rfl (hb hby at_61) (by decide) (by decide) k) ?_
      refine own_by (B := s₁.setTop (mkF m 68 #[.val (.int i0), .val (.int i1), .val (.int i2), .val (.int (1 : Int32)), .val (.int (1 : Int32)), .val (.long (-(i0.toInt64))), .second, .val (.long (-(i1.toInt64))), .second, .val (.double (FP.dneg (FP.i2d i0))), .second, .unset, .unset, .unset] [])) (fun t k => own_dstore X0.here hx rfl (hb hby at_66) rfl (l' := #[.val (.int i0), .val (.int i1), .val (.int i2), .val (.int (1 : Int32)), .val (.int (1 : Int32)), .val (.long (-(i0.toInt64))), .second, .val (.long (-(i1.toInt64))), .second, .val (.double (FP.dneg (FP.i2d i0))), .second, .unset, .unset, .unset]) rfl k) ?_
      refine own_by (B := s₁.setTop (mkF m 70 #[.val (.int i0), .val (.int i1), .val (.int i2), .val (.int (1 : Int32)), .val (.int (1 : Int32)), .val (.long (-(i0.toInt64))), .second, .val (.long (-(i1.toInt64))), .second, .val (.double (FP.dneg (FP.i2d i0))), .second, .unset, .unset, .unset] [(.int (1 : Int32))])) (fun t k => XS.iload X0.here hx rfl (hb hby at_68) rfl k) ?_
      refine own_by (B := s₁.setTop (mkF m 73 #[.val (.int i0), .val (.int i1), .val (.int i2), .val (.int (1 : Int32)), .val (.int (1 : Int32)), .val (.long (-(i0.toInt64))), .second, .val (.long (-(i1.toInt64))), .second, .val (.double (FP.dneg (FP.i2d i0))), .second, .unset, .unset, .unset] [])) (fun t k => XS.ifNo X0.here hx rfl (hb hby at_70) rfl ((if0 _ _).trans (feq (by decide)).1) k) ?_
      refine own_by (B := s₁.setTop (mkF m 74 #[.val (.int i0), .val (.int i1), .val (.int i2), .val (.int (1 : Int32)), .val (.int (1 : Int32)), .val (.long (-(i0.toInt64))), .second, .val (.long (-(i1.toInt64))), .second, .val (.double (FP.dneg (FP.i2d i0))), .second, .unset, .unset, .unset] [(.int i1)])) (fun t k => XS.iloadN X0.here hx rfl (hb hby at_73) rfl k) ?_
      refine own_by (B := s₁.setTop (mkF m 75 #[.val (.int i0), .val (.int i1), .val (.int i2), .val (.int (1 : Int32)), .val (.int (1 : Int32)), .val (.long (-(i0.toInt64))), .second, .val (.long (-(i1.toInt64))), .second, .val (.double (FP.dneg (FP.i2d i0))), .second, .unset, .unset, .unset] [(.double (FP.i2d i1))])) (fun t k => own_i2d X0.here hx rfl (hb hby at_74) rfl k) ?_
      refine own_by (B := s₁.setTop (mkF m 76 #[.val (.int i0), .val (.int i1), .val (.int i2), .val (.int (1 : Int32)), .val (.int (1 : Int32)), .val (.long (-(i0.toInt64))), .second, .val (.long (-(i1.toInt64))), .second, .val (.double (FP.dneg (FP.i2d i0))), .second, .unset, .unset, .unset] [(.double (FP.dneg (FP.i2d i1)))])) (fun t k => own_dneg X0.here hx rfl (hb hby at_75) rfl k) ?_
      refine own_by (B := s₁.setTop (mkF m 81 #[.val (.int i0), .val (.int i1), .val (.int i2), .val (.int (1 : Int32)), .val (.int (1 : Int32)), .val (.long (-(i0.toInt64))), .second, .val (.long (-(i1.toInt64))), .second, .val (.double (FP.dneg (FP.i2d i0))), .second, .unset, .unset, .unset] [(.double (FP.dneg (FP.i2d i1)))])) (fun t k => XS.goto X0.here hx rfl (pc0 := 76) (pc' := 81) rfl (hb hby at_76) (by decide) (by decide) k) ?_
      refine own_by (B := s₁.setTop (mkF m 83 #[.val (.int i0), .val (.int i1), .val (.int i2), .val (.int (1 : Int32)), .val (.int (1 : Int32)), .val (.long (-(i0.toInt64))), .second, .val (.long (-(i1.toInt64))), .second, .val (.double (FP.dneg (FP.i2d i0))), .second, .val (.double (FP.dneg (FP.i2d i1))), .second, .unset] [])) (fun t k => own_dstore X0.here hx rfl (hb hby at_81) rfl (l' := #[.val (.int i0), .val (.int i1), .val (.int i2), .val (.int (1 : Int32)), .val (.int (1 : Int32)), .val (.long (-(i0.toInt64))), .second, .val (.long (-(i1.toInt64))), .second, .val (.double (FP.dneg (FP.i2d i0))), .second, .val (.double (FP.dneg (FP.i2d i1))), .second, .unset]) rfl k) ?_
      refine own_by (B := s₁.setTop (mkF m 85 #[.val (.int i0), .val (.int i1), .val (.int i2), .val (.int (1 : Int32)), .val (.int (1 : Int32)), .val (.long (-(i0.toInt64))), .second, .val (.long (-(i1.toInt64))), .second, .val (.double (FP.dneg (FP.i2d i0))), .second, .val (.double (FP.dneg (FP.i2d i1))), .second, .unset] [(.double (FP.dneg (FP.i2d i0)))])) (fun t k => own_dload X0.here hx rfl (hb hby at_83) rfl k) ?_
      refine own_by (B := s₁.setTop (mkF m 87 #[.val (.int i0), .val (.int i1), .val (.int i2), .val (.int (1 : Int32)), .val (.int (1 : Int32)), .val (.long (-(i0.toInt64))), .second, .val (.long (-(i1.toInt64))), .second, .val (.double (FP.dneg (FP.i2d i0))), .second, .val (.double (FP.dneg (FP.i2d i1))), .second, .unset] [(.double (FP.dneg (FP.i2d i1))), (.double (FP.dneg (FP.i2d i0)))])) (fun t k => own_dload X0.here hx rfl (hb hby at_85) rfl k) ?_
      obtain ⟨_, _, ⟨T4, L4, k4, n4⟩, -, X4, ⟨Lc4, hQ4, l4, y4, z4⟩, st4⟩ := Jvm.LawKit.callS X0 hx (y := (⟨"com/example/surrogate/surrogate/search/Hit", "compareScores", "(DD)I"⟩ : MethodName)) hown (mvT hZ (hw _ (List.mem_of_getElem? (i := 0) rfl))) (mvT hZ (hw _ (List.mem_of_getElem? (i := 1) rfl))) (mvT hZ (hw _ (List.mem_of_getElem? (i := 2) rfl))) (mvT hZ (hw _ (List.mem_of_getElem? (i := 3) rfl))) (by decide) (backOf (W := 0) (rm1 l Z a0 hw [] (FP.dneg (FP.i2d i0)) (FP.dneg (FP.i2d i1)) h0 n0 Zs) hZ (hw _ (List.mem_of_getElem? (i := 3) rfl)) (hw _ (List.mem_of_getElem? (i := 2) rfl)) (by decide) (by decide)) (g := (mkF m 87 #[.val (.int i0), .val (.int i1), .val (.int i2), .val (.int (1 : Int32)), .val (.int (1 : Int32)), .val (.long (-(i0.toInt64))), .second, .val (.long (-(i1.toInt64))), .second, .val (.double (FP.dneg (FP.i2d i0))), .second, .val (.double (FP.dneg (FP.i2d i1))), .second, .unset] [(.double (FP.dneg (FP.i2d i1))), (.double (FP.dneg (FP.i2d i0)))])) rfl (by rw [hml]; rfl) (argsL := [(.double (FP.dneg (FP.i2d i0))), (.double (FP.dneg (FP.i2d i1)))]) (rest := []) (lenOf own_pd0 rfl) rfl (by show 2 * 0 + _ ≤ _; exact Nat.le_of_eq rfl) (hb hby at_87) (fun _ _ => ⟨rfl, e0, (by decide : 0 + 0 ≤ _), (by decide : 0 + 0 ≤ _)⟩)
      dsimp only [Pt.U, Pt.locs, Pt.cells, Pt.slots] at X4 l4 y4 z4 st4 hQ4
      subst l4 y4 z4
      obtain ⟨rfl, Nq4, hp4⟩ := hQ4
      have Nf := Fr.app Nf Nq4
      have ec4 : T4.heap = h0 := hp4
      refine own_by (B := T4.setTop (mkF m 90 #[.val (.int i0), .val (.int i1), .val (.int i2), .val (.int (1 : Int32)), .val (.int (1 : Int32)), .val (.long (-(i0.toInt64))), .second, .val (.long (-(i1.toInt64))), .second, .val (.double (FP.dneg (FP.i2d i0))), .second, .val (.double (FP.dneg (FP.i2d i1))), .second, .unset] [(.int (own_cs (FP.dneg (FP.i2d i0)) (FP.dneg (FP.i2d i1))))])) st4 ?_
      refine own_by (B := T4.setTop (mkF m 92 #[.val (.int i0), .val (.int i1), .val (.int i2), .val (.int (1 : Int32)), .val (.int (1 : Int32)), .val (.long (-(i0.toInt64))), .second, .val (.long (-(i1.toInt64))), .second, .val (.double (FP.dneg (FP.i2d i0))), .second, .val (.double (FP.dneg (FP.i2d i1))), .second, .val (.int (own_cs (FP.dneg (FP.i2d i0)) (FP.dneg (FP.i2d i1))))] [])) (fun t k => XS.istore X4.here hx rfl (hb hby at_90) rfl (l' := #[.val (.int i0), .val (.int i1), .val (.int i2), .val (.int (1 : Int32)), .val (.int (1 : Int32)), .val (.long (-(i0.toInt64))), .second, .val (.long (-(i1.toInt64))), .second, .val (.double (FP.dneg (FP.i2d i0))), .second, .val (.double (FP.dneg (FP.i2d i1))), .second, .val (.int (own_cs (FP.dneg (FP.i2d i0)) (FP.dneg (FP.i2d i1))))]) rfl k) ?_
      refine own_by (B := T4.setTop (mkF m 94 #[.val (.int i0), .val (.int i1), .val (.int i2), .val (.int (1 : Int32)), .val (.int (1 : Int32)), .val (.long (-(i0.toInt64))), .second, .val (.long (-(i1.toInt64))), .second, .val (.double (FP.dneg (FP.i2d i0))), .second, .val (.double (FP.dneg (FP.i2d i1))), .second, .val (.int (own_cs (FP.dneg (FP.i2d i0)) (FP.dneg (FP.i2d i1))))] [(.long (-(i0.toInt64)))])) (fun t k => XS.lload X4.here hx rfl (hb hby at_92) rfl k) ?_
      refine own_by (B := T4.setTop (mkF m 96 #[.val (.int i0), .val (.int i1), .val (.int i2), .val (.int (1 : Int32)), .val (.int (1 : Int32)), .val (.long (-(i0.toInt64))), .second, .val (.long (-(i1.toInt64))), .second, .val (.double (FP.dneg (FP.i2d i0))), .second, .val (.double (FP.dneg (FP.i2d i1))), .second, .val (.int (own_cs (FP.dneg (FP.i2d i0)) (FP.dneg (FP.i2d i1))))] [(.long (-(i1.toInt64))), (.long (-(i0.toInt64)))])) (fun t k => XS.lload X4.here hx rfl (hb hby at_94) rfl k) ?_
      refine own_by (B := T4.setTop (mkF m 97 #[.val (.int i0), .val (.int i1), .val (.int i2), .val (.int (1 : Int32)), .val (.int (1 : Int32)), .val (.long (-(i0.toInt64))), .second, .val (.long (-(i1.toInt64))), .second, .val (.double (FP.dneg (FP.i2d i0))), .second, .val (.double (FP.dneg (FP.i2d i1))), .second, .val (.int (own_cs (FP.dneg (FP.i2d i0)) (FP.dneg (FP.i2d i1))))] [(.int (lcmpW (-(i0.toInt64)) (-(i1.toInt64))))])) (fun t k => XS.lcmp X4.here hx rfl (hb hby at_96) rfl k) ?_
      by_cases hc97 : (0 : Int32) < (lcmpW (-(i0.toInt64)) (-(i1.toInt64)))
      · refine own_by (B := T4.setTop (mkF m 100 #[.val (.int i0), .val (.int i1), .val (.int i2), .val (.int (1 : Int32)), .val (.int (1 : Int32)), .val (.long (-(i0.toInt64))), .second, .val (.long (-(i1.toInt64))), .second, .val (.double (FP.dneg (FP.i2d i0))), .second, .val (.double (FP.dneg (FP.i2d i1))), .second, .val (.int (own_cs (FP.dneg (FP.i2d i0)) (FP.dneg (FP.i2d i1))))] [])) (fun t k => XS.ifNo X4.here hx rfl (hb hby at_97) rfl ((if0 _ _).trans (tlt hc97).2.2.2) k) ?_
        refine own_by (B := T4.setTop (mkF m 102 #[.val (.int i0), .val (.int i1), .val (.int i2), .val (.int (1 : Int32)), .val (.int (1 : Int32)), .val (.long (-(i0.toInt64))), .second, .val (.long (-(i1.toInt64))), .second, .val (.double (FP.dneg (FP.i2d i0))), .second, .val (.double (FP.dneg (FP.i2d i1))), .second, .val (.int (own_cs (FP.dneg (FP.i2d i0)) (FP.dneg (FP.i2d i1))))] [(.int (own_cs (FP.dneg (FP.i2d i0)) (FP.dneg (FP.i2d i1))))])) (fun t k => XS.iload X4.here hx rfl (hb hby at_100) rfl k) ?_
        have hv : (own_cs (FP.dneg (FP.i2d i0)) (FP.dneg (FP.i2d i1))) = (-1 : Int32) := by rw [own_cs_val (own_repN i0) (own_repN i1), if_pos hc97]
        refine own_by (B := T4.setTop (mkF m 105 #[.val (.int i0), .val (.int i1), .val (.int i2), .val (.int (1 : Int32)), .val (.int (1 : Int32)), .val (.long (-(i0.toInt64))), .second, .val (.long (-(i1.toInt64))), .second, .val (.double (FP.dneg (FP.i2d i0))), .second, .val (.double (FP.dneg (FP.i2d i1))), .second, .val (.int (own_cs (FP.dneg (FP.i2d i0)) (FP.dneg (FP.i2d i1))))] [])) (fun t k => XS.ifNo X4.here hx rfl (hb hby at_102) rfl ((if0 _ _).trans (tlt (by rw [hv]; decide)).2.1) k) ?_
        refine own_by (B := T4.setTop (mkF m 106 #[.val (.int i0), .val (.int i1), .val (.int i2), .val (.int (1 : Int32)), .val (.int (1 : Int32)), .val (.long (-(i0.toInt64))), .second, .val (.long (-(i1.toInt64))), .second, .val (.double (FP.dneg (FP.i2d i0))), .second, .val (.double (FP.dneg (FP.i2d i1))), .second, .val (.int (own_cs (FP.dneg (FP.i2d i0)) (FP.dneg (FP.i2d i1))))] [(.int (1 : Int32))])) (fun t k => XS.iconst X4.here hx rfl (hb hby at_105) k) ?_
        refine own_by (B := T4.setTop (mkF m 110 #[.val (.int i0), .val (.int i1), .val (.int i2), .val (.int (1 : Int32)), .val (.int (1 : Int32)), .val (.long (-(i0.toInt64))), .second, .val (.long (-(i1.toInt64))), .second, .val (.double (FP.dneg (FP.i2d i0))), .second, .val (.double (FP.dneg (FP.i2d i1))), .second, .val (.int (own_cs (FP.dneg (FP.i2d i0)) (FP.dneg (FP.i2d i1))))] [(.int (1 : Int32))])) (fun t k => XS.goto X4.here hx rfl (pc0 := 106) (pc' := 110) rfl (hb hby at_106) (by decide) (by decide) k) ?_
        exact own_end X4 (v := some (.int (1 : Int32))) (fun h => by rw [Bd.returns] at h; cases h) (BodyLoose.notSynchronized Bd) (Q := (Q_rm0 Z i0 i1 i2 h0 n0)) (fun fs hr => retN X4 hx (t := .boolean) Bd.returns (by simp) (hb hby at_110) hr) (show (Q_rm0 Z i0 i1 i2 h0 n0) _ T4.heap _ from (by rw [ec4]; exact ⟨rfl, Nf⟩)) (by decide) (by decide)
      · refine own_by (B := T4.setTop (mkF m 111 #[.val (.int i0), .val (.int i1), .val (.int i2), .val (.int (1 : Int32)), .val (.int (1 : Int32)), .val (.long (-(i0.toInt64))), .second, .val (.long (-(i1.toInt64))), .second, .val (.double (FP.dneg (FP.i2d i0))), .second, .val (.double (FP.dneg (FP.i2d i1))), .second, .val (.int (own_cs (FP.dneg (FP.i2d i0)) (FP.dneg (FP.i2d i1))))] [])) (fun t k => XS.ifYes X4.here hx rfl (pc0 := 97) (pc' := 111) rfl (hb hby at_97) rfl ((if0 _ _).trans (flt hc97).2.2.2) (by decide) (by decide) k) ?_
        refine own_by (B := T4.setTop (mkF m 113 #[.val (.int i0), .val (.int i1), .val (.int i2), .val (.int (1 : Int32)), .val (.int (1 : Int32)), .val (.long (-(i0.toInt64))), .second, .val (.long (-(i1.toInt64))), .second, .val (.double (FP.dneg (FP.i2d i0))), .second, .val (.double (FP.dneg (FP.i2d i1))), .second, .val (.int (own_cs (FP.dneg (FP.i2d i0)) (FP.dneg (FP.i2d i1))))] [(.long (-(i0.toInt64)))])) (fun t k => XS.lload X4.here hx rfl (hb hby at_111) rfl k) ?_
        refine own_by (B := T4.setTop (mkF m 115 #[.val (.int i0), .val (.int i1), .val (.int i2), .val (.int (1 : Int32)), .val (.int (1 : Int32)), .val (.long (-(i0.toInt64))), .second, .val (.long (-(i1.toInt64))), .second, .val (.double (FP.dneg (FP.i2d i0))), .second, .val (.double (FP.dneg (FP.i2d i1))), .second, .val (.int (own_cs (FP.dneg (FP.i2d i0)) (FP.dneg (FP.i2d i1))))] [(.long (-(i1.toInt64))), (.long (-(i0.toInt64)))])) (fun t k => XS.lload X4.here hx rfl (hb hby at_113) rfl k) ?_
        refine own_by (B := T4.setTop (mkF m 116 #[.val (.int i0), .val (.int i1), .val (.int i2), .val (.int (1 : Int32)), .val (.int (1 : Int32)), .val (.long (-(i0.toInt64))), .second, .val (.long (-(i1.toInt64))), .second, .val (.double (FP.dneg (FP.i2d i0))), .second, .val (.double (FP.dneg (FP.i2d i1))), .second, .val (.int (own_cs (FP.dneg (FP.i2d i0)) (FP.dneg (FP.i2d i1))))] [(.int (lcmpW (-(i0.toInt64)) (-(i1.toInt64))))])) (fun t k => XS.lcmp X4.here hx rfl (hb hby at_115) rfl k) ?_
        by_cases hc116 : (lcmpW (-(i0.toInt64)) (-(i1.toInt64))) < (0 : Int32)
        · refine own_by (B := T4.setTop (mkF m 119 #[.val (.int i0), .val (.int i1), .val (.int i2), .val (.int (1 : Int32)), .val (.int (1 : Int32)), .val (.long (-(i0.toInt64))), .second, .val (.long (-(i1.toInt64))), .second, .val (.double (FP.dneg (FP.i2d i0))), .second, .val (.double (FP.dneg (FP.i2d i1))), .second, .val (.int (own_cs (FP.dneg (FP.i2d i0)) (FP.dneg (FP.i2d i1))))] [])) (fun t k => XS.ifNo X4.here hx rfl (hb hby at_116) rfl ((if0 _ _).trans (tlt hc116).2.1) k) ?_
          refine own_by (B := T4.setTop (mkF m 121 #[.val (.int i0), .val (.int i1), .val (.int i2), .val (.int (1 : Int32)), .val (.int (1 : Int32)), .val (.long (-(i0.toInt64))), .second, .val (.long (-(i1.toInt64))), .second, .val (.double (FP.dneg (FP.i2d i0))), .second, .val (.double (FP.dneg (FP.i2d i1))), .second, .val (.int (own_cs (FP.dneg (FP.i2d i0)) (FP.dneg (FP.i2d i1))))] [(.int (own_cs (FP.dneg (FP.i2d i0)) (FP.dneg (FP.i2d i1))))])) (fun t k => XS.iload X4.here hx rfl (hb hby at_119) rfl k) ?_
          have hv : (own_cs (FP.dneg (FP.i2d i0)) (FP.dneg (FP.i2d i1))) = (1 : Int32) := by rw [own_cs_val (own_repN i0) (own_repN i1), if_neg hc97, if_pos hc116]
          refine own_by (B := T4.setTop (mkF m 124 #[.val (.int i0), .val (.int i1), .val (.int i2), .val (.int (1 : Int32)), .val (.int (1 : Int32)), .val (.long (-(i0.toInt64))), .second, .val (.long (-(i1.toInt64))), .second, .val (.double (FP.dneg (FP.i2d i0))), .second, .val (.double (FP.dneg (FP.i2d i1))), .second, .val (.int (own_cs (FP.dneg (FP.i2d i0)) (FP.dneg (FP.i2d i1))))] [])) (fun t k => XS.ifNo X4.here hx rfl (hb hby at_121) rfl ((if0 _ _).trans (tlt (by rw [hv]; decide)).2.2.2) k) ?_
          refine own_by (B := T4.setTop (mkF m 125 #[.val (.int i0), .val (.int i1), .val (.int i2), .val (.int (1 : Int32)), .val (.int (1 : Int32)), .val (.long (-(i0.toInt64))), .second, .val (.long (-(i1.toInt64))), .second, .val (.double (FP.dneg (FP.i2d i0))), .second, .val (.double (FP.dneg (FP.i2d i1))), .second, .val (.int (own_cs (FP.dneg (FP.i2d i0)) (FP.dneg (FP.i2d i1))))] [(.int (1 : Int32))])) (fun t k => XS.iconst X4.here hx rfl (hb hby at_124) k) ?_
          refine own_by (B := T4.setTop (mkF m 129 #[.val (.int i0), .val (.int i1), .val (.int i2), .val (.int (1 : Int32)), .val (.int (1 : Int32)), .val (.long (-(i0.toInt64))), .second, .val (.long (-(i1.toInt64))), .second, .val (.double (FP.dneg (FP.i2d i0))), .second, .val (.double (FP.dneg (FP.i2d i1))), .second, .val (.int (own_cs (FP.dneg (FP.i2d i0)) (FP.dneg (FP.i2d i1))))] [(.int (1 : Int32))])) (fun t k => XS.goto X4.here hx rfl (pc0 := 125) (pc' := 129) rfl (hb hby at_125) (by decide) (by decide) k) ?_
          exact own_end X4 (v := some (.int (1 : Int32))) (fun h => by rw [Bd.returns] at h; cases h) (BodyLoose.notSynchronized Bd) (Q := (Q_rm0 Z i0 i1 i2 h0 n0)) (fun fs hr => retN X4 hx (t := .boolean) Bd.returns (by simp) (hb hby at_129) hr) (show (Q_rm0 Z i0 i1 i2 h0 n0) _ T4.heap _ from (by rw [ec4]; exact ⟨rfl, Nf⟩)) (by decide) (by decide)
        · refine own_by (B := T4.setTop (mkF m 130 #[.val (.int i0), .val (.int i1), .val (.int i2), .val (.int (1 : Int32)), .val (.int (1 : Int32)), .val (.long (-(i0.toInt64))), .second, .val (.long (-(i1.toInt64))), .second, .val (.double (FP.dneg (FP.i2d i0))), .second, .val (.double (FP.dneg (FP.i2d i1))), .second, .val (.int (own_cs (FP.dneg (FP.i2d i0)) (FP.dneg (FP.i2d i1))))] [])) (fun t k => XS.ifYes X4.here hx rfl (pc0 := 116) (pc' := 130) rfl (hb hby at_116) rfl ((if0 _ _).trans (flt hc116).2.1) (by decide) (by decide) k) ?_
          refine own_by (B := T4.setTop (mkF m 132 #[.val (.int i0), .val (.int i1), .val (.int i2), .val (.int (1 : Int32)), .val (.int (1 : Int32)), .val (.long (-(i0.toInt64))), .second, .val (.long (-(i1.toInt64))), .second, .val (.double (FP.dneg (FP.i2d i0))), .second, .val (.double (FP.dneg (FP.i2d i1))), .second, .val (.int (own_cs (FP.dneg (FP.i2d i0)) (FP.dneg (FP.i2d i1))))] [(.int (own_cs (FP.dneg (FP.i2d i0)) (FP.dneg (FP.i2d i1))))])) (fun t k => XS.iload X4.here hx rfl (hb hby at_130) rfl k) ?_
          have hv : (own_cs (FP.dneg (FP.i2d i0)) (FP.dneg (FP.i2d i1))) = (0 : Int32) := by rw [own_cs_val (own_repN i0) (own_repN i1), if_neg hc97, if_neg hc116]
          refine own_by (B := T4.setTop (mkF m 135 #[.val (.int i0), .val (.int i1), .val (.int i2), .val (.int (1 : Int32)), .val (.int (1 : Int32)), .val (.long (-(i0.toInt64))), .second, .val (.long (-(i1.toInt64))), .second, .val (.double (FP.dneg (FP.i2d i0))), .second, .val (.double (FP.dneg (FP.i2d i1))), .second, .val (.int (own_cs (FP.dneg (FP.i2d i0)) (FP.dneg (FP.i2d i1))))] [])) (fun t k => XS.ifNo X4.here hx rfl (hb hby at_132) rfl ((if0 _ _).trans (teq hv).2) k) ?_
          refine own_by (B := T4.setTop (mkF m 136 #[.val (.int i0), .val (.int i1), .val (.int i2), .val (.int (1 : Int32)), .val (.int (1 : Int32)), .val (.long (-(i0.toInt64))), .second, .val (.long (-(i1.toInt64))), .second, .val (.double (FP.dneg (FP.i2d i0))), .second, .val (.double (FP.dneg (FP.i2d i1))), .second, .val (.int (own_cs (FP.dneg (FP.i2d i0)) (FP.dneg (FP.i2d i1))))] [(.int (1 : Int32))])) (fun t k => XS.iconst X4.here hx rfl (hb hby at_135) k) ?_
          refine own_by (B := T4.setTop (mkF m 140 #[.val (.int i0), .val (.int i1), .val (.int i2), .val (.int (1 : Int32)), .val (.int (1 : Int32)), .val (.long (-(i0.toInt64))), .second, .val (.long (-(i1.toInt64))), .second, .val (.double (FP.dneg (FP.i2d i0))), .second, .val (.double (FP.dneg (FP.i2d i1))), .second, .val (.int (own_cs (FP.dneg (FP.i2d i0)) (FP.dneg (FP.i2d i1))))] [(.int (1 : Int32))])) (fun t k => XS.goto X4.here hx rfl (pc0 := 136) (pc' := 140) rfl (hb hby at_136) (by decide) (by decide) k) ?_
          exact own_end X4 (v := some (.int (1 : Int32))) (fun h => by rw [Bd.returns] at h; cases h) (BodyLoose.notSynchronized Bd) (Q := (Q_rm0 Z i0 i1 i2 h0 n0)) (fun fs hr => retN X4 hx (t := .boolean) Bd.returns (by simp) (hb hby at_140) hr) (show (Q_rm0 Z i0 i1 i2 h0 n0) _ T4.heap _ from (by rw [ec4]; exact ⟨rfl, Nf⟩)) (by decide) (by decide)
set_option maxRecDepth 65536 in
set_option maxHeartbeats 40000000 in
theorem comes_1 {Post : Tables → Env → Array Value → State → Outcome → State → Prop} (hpost : ∀ tb e args s v u, (limb_1_1.after args s (.returned v) u = true ∧ limb_1_2.after args s (.returned v) u = true ∧ True) → FrameEnd s (.returned v) u (Jvm.fieldLocs frame_1_writes args s ++ Jvm.arrayLocs frame_1_arrays args s ++ Jvm.staticLocs frame_1_statics s) 0 0 → Post tb e args s (.returned v) u) :
    ArmFor flags0 classFile x code maxLocals ret World_1 tables_1 room_1 Calls_1 rest_1 Pre_1 Post := by
  intro l hfl _ _ p e ha hc hk s m args below hf hA hF happ hP
  obtain ⟨hcalls, hrest, hpre⟩ := hP
  obtain ⟨-, -, -, hnamed, -, -, -, hat⟩ := (Spec.applies_iff hf).mp happ
  obtain ⟨hg, hn⟩ := and_e (Cond.before_iff.mp (show (Jvm.Cond.and given_1 narrow_1).before args s = true from hpre))
  obtain ⟨hcount, hg0⟩ := and_e hg
  obtain ⟨hv0, hg1⟩ := and_e hg0
  obtain ⟨hv1, hg2⟩ := and_e hg1
  have hv2 := hg2
  obtain ⟨w0, w1, w2, rfl⟩ : ∃ w0 w1 w2 : Value, args = #[w0, w1, w2] := by
    have hs : args.size = 3 := by simpa [Cond.value, given_1] using hcount
    obtain ⟨L⟩ := args
    match L, hs with
    | [w0, w1, w2], _ => exact ⟨w0, w1, w2, rfl⟩
  have hw := fun d (hd : d ∈ tables_1) => atoms_spec (ws := Jvm.Cond.code x code maxLocals ret :: tables_1) hat d (List.mem_cons_of_mem _ hd)
  have hfit : Fit s := fun {y c} hc i hi => by
    obtain ⟨ha, rfl⟩ := Array.getElem?_eq_some_iff.mp hc
    have q := List.all_eq_true.mp ((Array.all_eq_true_iff_forall_mem.mp hF) _ (Array.getElem_mem ha)) i (List.mem_range.mpr hi)
    simpa [Array.getElem?_eq_getElem hi] using q
  obtain ⟨i0, ei0⟩ := is_v hv0
  obtain rfl : w0 = (.int i0) := Option.some.inj ei0
  obtain ⟨i1, ei1⟩ := is_v hv1
  obtain rfl : w1 = (.int i1) := Option.some.inj ei1
  obtain ⟨i2, ei2⟩ := is_v hv2
  obtain rfl : w2 = (.int i2) := Option.some.inj ei2
  obtain ⟨n, o, h1, h2, h3, _, L, rfl, ⟨rfl, N⟩, hq⟩ := rm0 l s _ hw tables_1 i0 i1 i2 s.heap s.heap.size (Nat.le_refl _)  p e ha hc hk s m _ below hf ((Spec.applies_iff_loose hf).mp happ).1 ⟨rfl, State.Warmed39.refl s, rfl⟩ trivial
  refine ⟨n, _, h1, h2, h3, hpost _ _ _ _ _ _ ⟨Cond.after_iff.mpr rfl, Cond.after_iff.mpr (eq_i res_at (Term.int_eval (1)) rfl), trivial⟩ ⟨hq.1, hq.2.1, (hq.2.2.sift fun y hy => Or.inr (N y hy)).mono (by decide) (by decide)⟩⟩
theorem main_1_1 : Claimed_1_1 := comes_1 fun _ _ _ _ _ _ h hF => ⟨h.1, hF⟩
theorem main_1_2 : Claimed_1_2 := comes_1 fun _ _ _ _ _ _ h hF => ⟨h.2.1, hF⟩
end Jvm.Pilot.@@N@@
namespace Jvm.Pilot.@@N@@
open Jvm Jvm.ClassFile Sem Op Lib Jvm.Free Jvm.Stand Jvm.Pilot.@@N@@.Jvm.D
/-! MADE BY PROGRAM (witnessworld.py) out of the Statement's table words and the real class files: 9 classes; the members and pool entries that the words name. The judged class is class 1, her method 1. -/
namespace start1
open Jvm.ClassFile
def u (s : String) : CpInfo := .utf8 (stringToUtf16 s)
/-- a pool by its gaps: so many unusable entries, then the entry; so many at the end -/
def gap : Nat → List CpInfo → List CpInfo
  | 0, r => r
  | n + 1, r => .unusable :: gap n r
def poolList (es : List (Nat × CpInfo)) (last : Nat) : List CpInfo := es.foldr (fun e r => gap e.1 (e.2 :: r)) (gap last [])
def pool (es : List (Nat × CpInfo)) (last : Nat) : Array CpInfo := ⟨poolList es last⟩
def fileOf (pool : Array CpInfo) (this : Nat) (attrs : Array Attribute := #[]) (ms : Array MethodInfo := #[]) (fl : Nat := 33) (sup : Nat := 0) (ifs : Array Nat := #[]) (fds : Array FieldInfo := #[]) : ClassFile where
  minorVersion := 0
  majorVersion := 65
  constantPool := pool
  accessFlags := fl
  thisClass := this
  superClass := sup
  interfaces := ifs
  fields := fds
  methods := ms
  attributes := attrs
def plain (name : String) (sup : Option ClassId) : Class where
  name := name
  kind := .ordinary
  loader := none
  accessFlags := 33
  super := sup
  interfaces := #[]
  cf := none
  fields := #[]
  methods := #[]
  instanceTypes := #[]
  staticTypes := #[]
  resolved := #[]
  callSites := []
  init := .initialized
  statics := none
  mirror := none

def pool0 : Array CpInfo := pool [(5, u "<init>"), (0, u "()V"), (1, .class_ 10), (1, u "java/lang/Object")] 113

def k0m0 : Method := { name := "<init>", desc := "()V", sig := { parameters := [], returnType := none }, accessFlags := 1, code := none }
/-- java/lang/Object -/
def k0 : Class := { plain "java/lang/Object" none with
  accessFlags := 33
  interfaces := #[]
  cf := some (fileOf pool0 8 #[] #[{ accessFlags := 1, nameIndex := 5, descriptorIndex := 6, attributes := #[] }] 33 0 #[] #[])
  fields := #[]
  methods := #[k0m0]
  instanceTypes := #[]
  staticTypes := #[]
  resolved := Array.replicate 124 none
  statics := none }

def pool1 : Array CpInfo := pool [(2, .class_ 4), (1, u "java/lang/Object"), (0, u "<init>"), (0, u "()V"), (0, .methodref 8 9), (0, .class_ 10), (0, .nameAndType 11 12), (0, u "com/example/surrogate/surrogate/search/Hit"), (0, u "compareScores"), (0, u "(DD)I"), (0, .class_ 14), (0, u "com/example/surrogate/surrogate/search/HitCompareScoresPinLaw"), (2, u "law"), (0, u "(III)Z")] 3

def k1m0 : Method := { name := "<init>", desc := "()V", sig := { parameters := [], returnType := none }, accessFlags := 2, code := none }
def k1c1 : Code := { maxStack := 4, maxLocals := 14, code := code, exceptionTable := #[], attributes := #[] }
def k1m1 : Method := { name := "law", desc := "(III)Z", sig := { parameters := [.int, .int, .int], returnType := some .boolean }, accessFlags := 9, code := some k1c1 }
/-- com/example/surrogate/surrogate/search/HitCompareScoresPinLaw -/
def k1 : Class := { plain "com/example/surrogate/surrogate/search/HitCompareScoresPinLaw" (some 0) with
  accessFlags := 49
  interfaces := #[]
  cf := some (fileOf pool1 13 #[] #[{ accessFlags := 2, nameIndex := 5, descriptorIndex := 6, attributes := #[] }, { accessFlags := 9, nameIndex := 17, descriptorIndex := 18, attributes := #[] }] 49 2 #[] #[])
  fields := #[]
  methods := #[k1m0, k1m1]
  instanceTypes := #[]
  staticTypes := #[]
  resolved := Array.replicate 22 none
  statics := none }

def pool2 : Array CpInfo := pool [(2, .class_ 4), (1, u "java/lang/Object"), (3, .class_ 10), (1, u "com/example/surrogate/surrogate/search/Hit"), (0, u "document"), (0, u "I"), (2, u "docno"), (0, u "Ljava/lang/String;"), (2, u "score"), (0, u "D"), (2, u "compareScores"), (0, u "(DD)I")] 21

def k2c0 : Code := { maxStack := 4, maxLocals := 4, code := prog_37_method_6_code, exceptionTable := #[], attributes := #[] }
def k2m0 : Method := { name := "compareScores", desc := "(DD)I", sig := { parameters := [.double, .double], returnType := some .int }, accessFlags := 9, code := some k2c0 }
/-- com/example/surrogate/surrogate/search/Hit -/
def k2 : Class := { plain "com/example/surrogate/surrogate/search/Hit" (some 0) with
  accessFlags := 49
  interfaces := #[]
  cf := some (fileOf pool2 8 #[] #[{ accessFlags := 9, nameIndex := 23, descriptorIndex := 24, attributes := #[] }] 49 2 #[] #[{ accessFlags := 18, nameIndex := 11, descriptorIndex := 12, attributes := #[] }, { accessFlags := 18, nameIndex := 15, descriptorIndex := 16, attributes := #[] }, { accessFlags := 18, nameIndex := 19, descriptorIndex := 20, attributes := #[] }])
  fields := #[{ name := "document", type := .int, accessFlags := 18, slot := 0, constantValue := 0 }, { name := "docno", type := (.object "java/lang/String"), accessFlags := 18, slot := 1, constantValue := 0 }, { name := "score", type := .double, accessFlags := 18, slot := 2, constantValue := 0 }]
  methods := #[k2m0]
  instanceTypes := #[.int, (.object "java/lang/String"), .double]
  staticTypes := #[]
  resolved := Array.replicate 46 none
  statics := none }

def pool3 : Array CpInfo := pool [(1, u "java/lang/Cloneable"), (0, .class_ 1), (0, u "java/lang/Object"), (0, .class_ 3)] 3

/-- java/lang/Cloneable -/
def k3 : Class := { plain "java/lang/Cloneable" (some 0) with
  accessFlags := 1537
  interfaces := #[]
  cf := some (fileOf pool3 2 #[] #[] 1537 4 #[] #[])
  fields := #[]
  methods := #[]
  instanceTypes := #[]
  staticTypes := #[]
  resolved := Array.replicate 8 none
  statics := none }

def pool4 : Array CpInfo := pool [(1, u "java/io/Serializable"), (0, .class_ 1), (0, u "java/lang/Object"), (0, .class_ 3)] 3

/-- java/io/Serializable -/
def k4 : Class := { plain "java/io/Serializable" (some 0) with
  accessFlags := 1537
  interfaces := #[]
  cf := some (fileOf pool4 2 #[] #[] 1537 4 #[] #[])
  fields := #[]
  methods := #[]
  instanceTypes := #[]
  staticTypes := #[]
  resolved := Array.replicate 8 none
  statics := none }

/-- the primitive byte -/
def k5 : Class := { plain "byte" none with kind := .primitive 'B', accessFlags := 0x411 }
/-- [B -/
def k6 : Class := { plain "[B" (some 0) with kind := .array 5 .byte, interfaces := #[3, 4], accessFlags := 1041 }

/-- the primitive int -/
def k7 : Class := { plain "int" none with kind := .primitive 'I', accessFlags := 0x411 }
/-- [I -/
def k8 : Class := { plain "[I" (some 0) with kind := .array 7 .int, interfaces := #[3, 4], accessFlags := 1041 }

def heap : Heap := #[]
def classes : Array Class := #[k0, k1, k2, k3, k4, k5, k6, k7, k8]
def interned : List (Array UInt16 × Addr) := []
def slotsUsed : Nat := 0
def theMethod : MethodId := ⟨1, 1⟩
def args0 : Array Value := #[.int 2, .int 3, .int 1]
def aboutOver (below : List Frame) : State where
  vm := { classes := classes, interned := interned.toArray }
  heap := heap
  slotsUsed := slotsUsed
  threads := #[{ frames := .invoking theMethod args0 :: below }]
def below0 : List Frame := [.native { method := ⟨0, 0⟩, args := #[] }]
def about1 : State := aboutOver below0
def p0 : Program := .bare "" "" ""
def e0 : Env := launch0.env 0 0 0
theorem w_frames : about1.frames = Frame.invoking theMethod args0 :: below0 := rfl
set_option maxRecDepth 65536 in
theorem w_args : argsFit about1.vm theMethod args0 = true := by decide +kernel
set_option maxRecDepth 65536 in
theorem w_heap : heapFits about1 = true := by decide +kernel
set_option maxRecDepth 65536 in
theorem w_runnable : about1.curStatus? = some .runnable := by decide +kernel
set_option maxRecDepth 65536 in
theorem w_alone : about1.alone = true := by decide +kernel
set_option maxRecDepth 65536 in
theorem w_named : about1.methodNamed? x = some theMethod := by decide +kernel
set_option maxRecDepth 65536 in
theorem w_hears : about1.hears theMethod below0 = true := by decide +kernel
set_option maxRecDepth 65536 in
theorem w_ripe : about1.ripe theMethod args0 below0 = true := by decide +kernel
theorem w_running : about1.status = .running := rfl
set_option maxRecDepth 65536 in
theorem w_room : about1.hasRoom e0.platform room_1 = true :=
  launch0.hasRoom_least _ room_1 (by decide +kernel) (by decide +kernel) (by decide +kernel) (by decide +kernel) (by decide +kernel) (by decide +kernel)
theorem allAtoms_all (ts : List Jvm.Cond) (a : Array Jvm.Value) (st : Jvm.State) : (allAtoms ts).before a st = ts.all (fun c => c.before a st) := by
  induction ts with
  | nil => rfl
  | cons c t ih =>
    show (Jvm.Cond.and c (allAtoms t)).before a st = _
    rw [Jvm.Cond.before_and, ih, List.all_cons]
def words1 : List Jvm.Cond := Jvm.Cond.code x code maxLocals ret :: tables_1
/-- a 'code' word, met by the world's own term for the bytes: nothing is compared byte by byte -/
theorem code_word {y : MethodName} {bytes : ByteArray} {mx : Nat} {rt : Option FieldType} {a : Array Value} {s : State} {m : MethodId} {meth : Method} {c : Code} (h1 : s.methodNamed? y = some m) (h2 : s.vm.method? m = some meth) (h3 : meth.code = some c) (h4 : c.code = bytes)
    (h5 : (c.maxLocals == mx && c.exceptionTable.isEmpty && decide (c.maxStack ≤ mostOperands) && decide (meth.sig.returnType = rt) && !meth.locks && decide (parseMethodDescriptor y.desc = some meth.sig)) = true) : (Jvm.Cond.code y bytes mx rt).before a s = true := by
  simp only [Bool.and_eq_true, beq_iff_eq, Bool.not_eq_true', decide_eq_true_eq] at h5
  obtain ⟨⟨⟨⟨⟨g1, g2⟩, g3⟩, g4⟩, g5⟩, g6⟩ := h5
  simp [Cond.before, Cond.holds, Cond.value, h1, h2, h3, h4, g1, g2, g3, g4, g5, g6]
def isCode : Jvm.Cond → Bool
  | .code _ _ _ _ => true
  | _ => false
theorem all_split {L : List Jvm.Cond} {P : Jvm.Cond → Bool} (h1 : L.all (fun c => isCode c || P c) = true) (h2 : ∀ c ∈ L.filter isCode, P c = true) : L.all P = true := by
  refine List.all_eq_true.mpr fun c hc => ?_
  have h := List.all_eq_true.mp h1 c hc
  rcases Bool.eq_false_or_eq_true (isCode c) with hi | hi
  · exact h2 c (List.mem_filter.mpr ⟨hc, hi⟩)
  · simpa [hi] using h
set_option maxRecDepth 65536 in
theorem w_c0 : (Jvm.Cond.code x code maxLocals ret).before args0 about1 = true := code_word (m := ⟨1, 1⟩) (meth := k1m1) (c := k1c1) (by decide +kernel) rfl rfl rfl (by decide +kernel)
set_option maxRecDepth 65536 in
theorem w_c1 : (Jvm.Cond.code ({ cls := "com/example/surrogate/surrogate/search/Hit", name := "compareScores", desc := "(DD)I" } : Jvm.MethodName) prog_37_method_6_code (4 : Nat) (Option.some Jvm.ClassFile.FieldType.int)).before args0 about1 = true := code_word (m := ⟨2, 0⟩) (meth := k2m0) (c := k2c0) (by decide +kernel) rfl rfl rfl (by decide +kernel)
def codes1 : List Jvm.Cond := [Jvm.Cond.code x code maxLocals ret, Jvm.Cond.code ({ cls := "com/example/surrogate/surrogate/search/Hit", name := "compareScores", desc := "(DD)I" } : Jvm.MethodName) prog_37_method_6_code (4 : Nat) (Option.some Jvm.ClassFile.FieldType.int)]
set_option maxRecDepth 65536 in
theorem codes_eq : words1.filter isCode = codes1 := rfl
theorem w_codes : ∀ c ∈ words1.filter isCode, c.before args0 about1 = true := by
  rw [codes_eq]
  intro c hc
  simp only [codes1, List.mem_cons, List.not_mem_nil, or_false] at hc
  rcases hc with rfl | rfl
  · exact w_c0
  · exact w_c1
set_option maxRecDepth 65536 in
theorem w_t1 : words1.all (fun c => isCode c || c.before args0 about1) = true := by decide +kernel
theorem w_tables : (allAtoms (Jvm.Cond.code x code maxLocals ret :: tables_1)).before args0 about1 = true := by
  rw [allAtoms_all]
  show words1.all (fun c => c.before args0 about1) = true
  refine all_split ?_ w_codes
  rw [w_t1]
set_option maxRecDepth 65536 in
theorem w_case : (Jvm.Cond.and given_1 narrow_1).before args0 about1 = true := by decide +kernel
theorem w_applies : (headSpec (Jvm.Cond.code x code maxLocals ret :: tables_1) room_1).applies x e0.platform about1 = true :=
  (Spec.applies_iff w_frames).mpr ⟨w_running, w_runnable, w_alone, w_named, w_hears, w_ripe, w_room, w_tables⟩
theorem atStart : AtStart classFile x code maxLocals ret World_1 tables_1 room_1 Calls_1 rest_1 Pre_1 launch0 p0 e0 about1 theMethod args0 below0 :=
  ⟨lists_1, trivial, launch0.admits_env _ _ _, launch0.least_env, fairChoices_fair.cas, fairChoices_fair.clock, w_frames, w_args, w_heap, w_applies, trivial, trivial, w_case⟩
end start1
theorem witness_1 : WitnessClaimed_1 := ⟨start1.p0, start1.e0, start1.about1, start1.theMethod, start1.args0, start1.below0, start1.atStart⟩
end Jvm.Pilot.@@N@@
