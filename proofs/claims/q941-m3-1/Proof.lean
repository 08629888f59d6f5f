import JvmDerived
import JvmDerived.Pilot.@@N@@Statement
import JvmDerived.Pilot.@@N@@Code
set_option linter.unusedVariables false
set_option linter.unusedSimpArgs false
namespace Jvm.RoadKit
open Sem ClassFile Op Lib Jvm.Stand Jvm.Free Jvm.LawKit
section New
variable {p : Program} {l : Launch} {e : Env} {R : Room} {s : State} {m : MethodId} {args : Array Value} {below : List Frame} {meth : Method} {c : Code} {T : State} {locs : List Loc} {cells slots : Nat}
theorem retI (X : Stand p l e R s m args below meth c T locs cells slots) (hx : p.tables.exec = Jvm.exec) {pc : Nat} {Ls : Array Slot} {z : Int32} {rest : List Value} (hret : meth.sig.returnType = some .int) (hd : decode c.code pc = .ok (.ireturn, 1)) {fs : List Frame}
    (hl : ∀ (f : JFrame) (acts : List Action), f.method = m → f.locked = none → f.entered = [] → (doReturn e (T.setTop f) acts (some (.int z))).1 = T.setFrames fs) : Steps p.tables e below (T.setTop (mkF m pc Ls (.int z :: rest))) (T.setFrames fs) := by
  have hm' : T.vm.method? m = some meth := X.method'
  have hn : narrow .int (.int z) = .int z := rfl
  show Steps p.tables e below (T.setTop { method := m, pc := pc, locals := Ls, stack := _ :: rest, locked := none }) _
  jvm_step X.here [X.here.top, hx, hd, hm', hret, hn]
  first | (intro acts; rw [hl _ acts rfl rfl rfl]) | rw [hl _ _ rfl rfl rfl]
  exact Steps.refl _
/-- the run from A ends, and P holds at the end -/
def own_Go (p : Program) (e : Env) (below : List Frame) (A : State) (P : State → Outcome → Prop) : Prop := ∃ s₂ o, Steps p.tables e below A s₂ ∧ s₂.status = .running ∧ Ended s₂ below o ∧ P s₂ o
theorem own_by {A B : State} {P : State → Outcome → Prop} (h : ∀ t, Steps p.tables e below B t → Steps p.tables e below A t) (g : own_Go p e below B P) : own_Go p e below A P := by
  obtain ⟨s2, o, h1, h2⟩ := g
  exact ⟨s2, o, h _ h1, h2⟩
theorem own_end (X : Stand p l e R s m args below meth c T locs cells slots) {v : Option Value} (hv : meth.sig.returnType = none → v = none) (hlk : meth.locks = false) {A : State} {Q : Option Value → Heap → List Loc → Prop} {k n : Nat}
    (hs : ∀ fs, (∀ (f : JFrame) (acts : List Action), f.method = m → f.locked = none → f.entered = [] → (doReturn e (T.setTop f) acts v).1 = T.setFrames fs) → Steps p.tables e below A (T.setFrames fs))
    (hq : Q v T.heap locs) (hk : cells ≤ k) (hn : slots ≤ n) : own_Go p e below A (fun t o => ∃ v L, o = .returned v ∧ Q v t.heap L ∧ FrameEnd s o t L k n) := by
  obtain ⟨fs, hr, hrun, hended, hW, hsame⟩ := X.leave (v := v) hv hlk
  exact ⟨_, _, hs fs hr, hrun, hended, _, _, rfl, hq, ⟨_, rfl⟩, hW, hsame.mono hk hn⟩
theorem own_endW {vm₁ : Vm} (X : Stand p l e R (s.setVm vm₁) m args below meth c T locs cells slots) {n0 : Nat} (hS : s.Since vm₁ n0) (hn0 : n0 ≤ T.heap.size) {v : Option Value} (hv : meth.sig.returnType = none → v = none) (hlk : meth.locks = false) {A : State} {Q : Option Value → Heap → List Loc → Prop} {k n : Nat}
    (hs : ∀ fs, (∀ (f : JFrame) (acts : List Action), f.method = m → f.locked = none → f.entered = [] → (doReturn e (T.setTop f) acts v).1 = T.setFrames fs) → Steps p.tables e below A (T.setFrames fs))
    (hq : Q v T.heap locs) (hk : cells ≤ k) (hn : slots ≤ n) : own_Go p e below A (fun t o => ∃ v L, o = .returned v ∧ Q v t.heap L ∧ ReturnedEndW s o t L k n) := by
  obtain ⟨fs, hr, hrun, hended, h1, h2, h3, h4⟩ := X.leaveW hS hn0 (v := v) hv hlk
  exact ⟨_, _, hs fs hr, hrun, hended, _, _, rfl, hq, h1, h2, h3, h4.mono hk hn⟩
theorem own_newPE {Z : State} {a0 : Array Value} {h : Heap} (X : Stand p l e R s m args below meth c T locs cells slots) (hx : p.tables.exec = Jvm.exec) (hZ : Z.Warmed39 s.vm) {aty : ArrayType} (w : (Cond.arrayClass (newarray.typeOf aty)).before a0 Z = true) (eT : T.heap = h) {g : JFrame} (hg : g.method = m) (hd : decode c.code g.pc = .ok (.newarray aty, 2)) {n : Int32} {rest : List Value} (hs : g.stack = .int n :: rest)
    (hn : ¬ n < 0) {cap : Nat} (hcap : n.toNatClampNeg ≤ cap) (hb : cap * 8 ≤ 536870912) (hc : cells + 1 ≤ R.cells) (hl : slots + cap ≤ R.slots) {ad : String} (had : "[" ++ (newarray.typeOf aty).toString = ad) :
    ∃ T' h' cA, Stand p l e R s m args below meth c T' locs (cells + 1) (slots + cap) ∧ T'.heap = h' ∧ Ext h h' ∧ Arr Z h' h.size (newA cA (newarray.typeOf aty) n) (newarray.typeOf aty) ∧ Exa Z h' h.size ad ∧
      ∀ target, Steps p.tables e below (T'.setTop { g with pc := g.pc + 2, stack := .ref h.size :: rest }) target → Steps p.tables e below (T.setTop g) target := by
  have hcb : componentBytes (newarray.typeOf aty) ≤ 8 := by cases aty <;> decide
  obtain ⟨cA, kA, comp, f1, f2, f3, Y, st⟩ := X.newarrayPrim hx (mvA hZ w) hg hd hs hn (Nat.le_trans (Nat.mul_le_mul hcap hcb) hb) hc (Nat.le_trans (Nat.add_le_add_left hcap _) hl)
  subst eT had
  have f1' : Z.vm.findClass ("[" ++ (newarray.typeOf aty).toString) = some cA := by rw [← hZ.alike.findClass]; exact f1
  obtain ⟨kZ, z1, -⟩ := Vm.findClass_spec f1'
  obtain ⟨k', z2, z3⟩ := hZ.alike.2.2 _ _ z1
  have ek : kA = k' := Option.some.inj (f2.symm.trans z2)
  have kd : kZ.kind = .array comp (newarray.typeOf aty) := by rw [← f3, ek, z3]
  have hN : (T.heap.push (newA cA (newarray.typeOf aty) n))[T.heap.size]? = some (newA cA (newarray.typeOf aty) n) := by simp
  refine ⟨_, _, cA, Y.more (Nat.le_refl _) (Nat.add_le_add_left hcap _), rfl, ext_of fun a q => ?_, ⟨hN, ⟨fun _ z => (by cases z), kZ, z1, comp, kd⟩, fun z => (by cases z)⟩, ⟨_, kZ, hN, f1', z1, rfl, fun ho => by rw [kd] at ho; cases ho⟩, st⟩
  exact (Array.getElem?_push_lt q).trans (Array.getElem?_eq_getElem q).symm
end New
section Arf
variable {Z : State} {h h' : Heap} {a b : Addr} {ty : FieldType} {n z : Int32} {f g : Nat → Value} {sl : Nat} {v : Value} {ws : List Addr} {k : ClassId}
/-- an array of n places, of which place i holds f i -/
def own_Arf (Z : State) (h : Heap) (a : Addr) (ty : FieldType) (n : Int32) (f : Nat → Value) : Prop := ∃ c : Cell, Arr Z h a c ty ∧ c.slots.size = n.toNatClampNeg ∧ ¬ n < 0 ∧ ∀ i, i < c.slots.size → c.slots[i]? = some (f i)
theorem own_Arf.lt (F : own_Arf Z h a ty n f) : a < h.size := by obtain ⟨c, A, -⟩ := F; exact A.lt
theorem own_Arf.ext (F : own_Arf Z h a ty n f) (E : Ext h h') : own_Arf Z h' a ty n f := by obtain ⟨c, A, r⟩ := F; exact ⟨c, A.ext E, r⟩
theorem own_Arf.other (F : own_Arf Z h b ty n f) (W : Wr h h' a sl v) (q : b ≠ a) : own_Arf Z h' b ty n f := by obtain ⟨c, A, r⟩ := F; exact ⟨c, A.other W q, r⟩
theorem own_Arf.keep (F : own_Arf Z h a ty n f) (K : Keep h h' ws) (q : a ∉ ws) : own_Arf Z h' a ty n f := by obtain ⟨c, A, r⟩ := F; exact ⟨c, ⟨K.2.1 a c A.1 q, A.2⟩, r⟩
theorem own_Arf.new (A : Arr Z h a (newA k ty z) ty) (q : ¬ z < 0) : own_Arf Z h a ty z (fun _ => defaultValue ty) := ⟨_, A, sz_new _ _ _, q, fun i hi => by
  rw [sz_new] at hi
  simp [newA, hi]⟩
theorem own_Arf.set (F : own_Arf Z h a ty n f) (W : Wr h h' a sl v) : own_Arf Z h' a ty n (fun i => if i = sl then v else f i) := by
  obtain ⟨c, A, S, N, H⟩ := F
  have hsl : sl < c.slots.size := by
    obtain ⟨c2, e1, -, e3, -⟩ := W
    cases A.1.symm.trans e1
    exact e3
  refine ⟨_, A.same W, by rw [sz_set]; exact S, N, fun i hi => ?_⟩
  rw [sz_set] at hi
  by_cases e : i = sl
  · subst e
    simp [Cell.setSlot, hi]
  · simp only [Cell.setSlot, if_neg e]
    rw [Array.getElem?_setIfInBounds_ne (Ne.symm e)]
    exact H i hi
theorem own_Arf.congr (F : own_Arf Z h a ty n f) (q : ∀ i, i < n.toNatClampNeg → f i = g i) : own_Arf Z h a ty n g := by
  obtain ⟨c, A, S, N, H⟩ := F
  exact ⟨c, A, S, N, fun i hi => by rw [← q i (by rw [← S]; exact hi)]; exact H i hi⟩
theorem own_Arf.at (F : own_Arf Z h a ty n f) {j : Int32} (q : ¬ j < 0 ∧ j < n) : ∃ c : Cell, Arr Z h a c ty ∧ ¬ (j < 0 ∨ c.slots.size ≤ j.toNatClampNeg) ∧ c.slots[j.toNatClampNeg]? = some (f j.toNatClampNeg) := by
  obtain ⟨c, A, S, N, H⟩ := F
  have hin := inb_of S q
  exact ⟨c, A, hin, H _ (Nat.lt_of_not_le fun y => hin (Or.inr y))⟩
theorem own_Arf.nn (F : own_Arf Z h a ty n f) : ¬ n < 0 := by obtain ⟨c, A, S, N, H⟩ := F; exact N
/-- an array of objects of the class C -/
def own_Ovr (Z : State) (h : Heap) (a : Addr) (C : String) : Prop := ∃ (c : Cell) (ty : FieldType), Arr Z h a c ty ∧ Ovr Z c.cls C
theorem own_Ovr.wr {C : String} (W : Wr h h' b sl v) (F : own_Ovr Z h a C) : own_Ovr Z h' a C := by
  obtain ⟨c, ty, A, O⟩ := F
  by_cases e : a = b
  · subst e; exact ⟨_, ty, A.same W, O⟩
  · exact ⟨c, ty, A.other W e, O⟩
theorem own_Ovr.ext {C : String} (F : own_Ovr Z h a C) (E : Ext h h') : own_Ovr Z h' a C := by obtain ⟨c, ty, A, O⟩ := F; exact ⟨c, ty, A.ext E, O⟩
theorem own_Ovr.sto {C : String} {y : Addr} (F : own_Ovr Z h a C) (I : Exa Z h y C) : Sto Z h a (.ref y) := by obtain ⟨c, ty, A, O⟩ := F; exact Sto.of A O (Ins.self I)
theorem own_selp {s : State} {a0 args : Array Value} {y : MethodName} {n : Nat} (hZ : Z.Warmed39 s.vm) (wi : (Cond.instantiable y.cls n).before a0 Z = true) (wn : (Cond.instanceMethod y).before a0 Z = true) (wp : (Cond.privateMethod y).before a0 Z = true) (hy : y.cls ≠ "java/lang/invoke/MethodHandle" ∧ y.cls ≠ "java/lang/invoke/VarHandle") : (Cond.selects y.cls y y).before args s = true := by
  obtain ⟨c2, k2, i1, i2, -, i4, -⟩ := Cond.instantiable_spec (mvT hZ wi : (Cond.instantiable y.cls n).before args s = true)
  simp only [Bool.or_eq_false_iff] at i4
  exact selects_self_of_private i1 i2 i4.1 (Cond.privateMethod_at (mvP hZ wp (args := args))) (mvT hZ wn) hy
theorem own_sta_keep {C n d : String} {w : Value} (F : Sta Z h C n d w) (K : Keep h h' []) : Sta Z h' C n d w := by
  obtain ⟨cf, i, k, f, st, cell, h1, h2, h3, h4, h5, h6⟩ := F
  exact ⟨cf, i, k, f, st, cell, h1, h2, h3, h4, K.2.1 _ _ h5 nin0, h6⟩
theorem own_ofNat_int {m : Nat} (h : m < 2 ^ 31) : (Int32.ofNat m).toInt = m := Int32.toInt_ofNat_of_lt h
theorem own_tn {m : Nat} (h : m < 2 ^ 31) : (Int32.ofNat m).toNatClampNeg = m := by
  show (Int32.ofNat m).toInt.toNat = m
  rw [own_ofNat_int h]; omega
theorem own_nn {m : Nat} (h : m < 2 ^ 31) : ¬ Int32.ofNat m < 0 := by
  rw [Int32.lt_iff_toInt_lt, own_ofNat_int h]; show ¬ (m : Int) < 0; omega
theorem own_ltN {i m : Nat} (h : i < m) (hm : m < 2 ^ 31) : Int32.ofNat i < Int32.ofNat m := by
  rw [Int32.lt_iff_toInt_lt, own_ofNat_int hm, own_ofNat_int (by omega)]; omega
theorem own_in {i m : Nat} (h : i < m) (hm : m < 2 ^ 31) : ¬ Int32.ofNat i < 0 ∧ Int32.ofNat i < Int32.ofNat m := ⟨own_nn (by omega), own_ltN h hm⟩
theorem own_injN {i m : Nat} (hi : i < 2 ^ 31) (hm : m < 2 ^ 31) (e : Int32.ofNat i = Int32.ofNat m) : i = m := by
  have := congrArg Int32.toInt e
  rw [own_ofNat_int hi, own_ofNat_int hm] at this; omega
theorem own_Arf.arv (F : own_Arf Z h a ty n f) (hf : ∀ i, i < n.toNatClampNeg → fits ty (f i) = true) (d : Value) : ∃ k, Arv Z h a k ty n ((List.range n.toNatClampNeg).map f) d := by
  obtain ⟨c, A, S, N, H⟩ := F
  have hg : ∀ i, i < n.toNatClampNeg → ((List.range n.toNatClampNeg).map f).getD i d = f i := fun i hi => by
    simp [List.getD, hi]
  refine ⟨c.cls, c, A, rfl, S, N, fun i hi => ?_, fun i hi => ?_⟩
  · rw [hg i (by rw [← S]; exact hi)]; exact H i hi
  · rw [hg i (by rw [← S]; exact hi)]; exact hf i (by rw [← S]; exact hi)
theorem own_Arf.of {vs : List Value} {d : Value} (F : Arv Z h a k ty n vs d) : own_Arf Z h a ty n (fun i => vs.getD i d) := by
  obtain ⟨c, A, -, S, N, H, -⟩ := F
  exact ⟨c, A, S, N, H⟩
end Arf
end Jvm.RoadKit
namespace Jvm.Pilot.@@N@@
open Jvm Jvm.ClassFile Sem Op Lib Jvm.Free Jvm.Stand Jvm.LawKit Jvm.RoadKit Bundle Jvm.Pilot.@@N@@.Jvm.D
theorem own_wS {a0 : Array Value} {Z : State} (hw : ∀ d ∈ tables_1, d.before a0 Z = true) : ∀ a ∈ Bundle.stringAtoms, a.before a0 Z = true := fun d hd => by
  simp only [Bundle.stringAtoms, List.mem_cons, List.not_mem_nil, or_false] at hd
  rcases hd with rfl | rfl | rfl | rfl | rfl | rfl | rfl
  · exact (hw _ (List.mem_of_getElem? (i := 12) rfl))
  · exact (hw _ (List.mem_of_getElem? (i := 13) rfl))
  · exact (hw _ (List.mem_of_getElem? (i := 1) rfl))
  · exact (hw _ (List.mem_of_getElem? (i := 14) rfl))
  · exact (hw _ (List.mem_of_getElem? (i := 15) rfl))
  · exact (hw _ (List.mem_of_getElem? (i := 16) rfl))
  · exact (hw _ (List.mem_of_getElem? (i := 17) rfl))
def own_known (t : Int32) : Int32 := if t < 1 then 0 else if 5 < t then 0 else 1
theorem own_range (x : Int32) : ¬ (x &&& (255 : Int32)) < 0 ∧ ¬ (255 : Int32) < (x &&& (255 : Int32)) := by
  have h := c_mask x 255 8 (by decide) (by decide)
  refine ⟨?_, ?_⟩
  · rw [Int32.lt_iff_toInt_lt]; show ¬ _ < (0 : Int); omega
  · rw [Int32.lt_iff_toInt_lt]; show ¬ (255 : Int) < _; omega
theorem own_range16 (x : Int32) : ¬ (x &&& (65535 : Int32)) < 0 ∧ ¬ (65535 : Int32) < (x &&& (65535 : Int32)) := by
  have h := c_mask x 65535 16 (by decide) (by decide)
  refine ⟨?_, ?_⟩
  · rw [Int32.lt_iff_toInt_lt]; show ¬ _ < (0 : Int); omega
  · rw [Int32.lt_iff_toInt_lt]; show ¬ (65535 : Int) < _; omega
theorem own_known_no {t : Int32} (h1 : ¬ t = 1) (h2 : ¬ t = 2) (h3 : ¬ t = 3) (h4 : ¬ t = 4) (h5 : ¬ t = 5) : own_known t = 0 := by
  unfold own_known
  by_cases a : t < 1
  · rw [if_pos a]
  · rw [if_neg a]
    by_cases b : 5 < t
    · rw [if_pos b]
    · exfalso
      rw [Int32.lt_iff_toInt_lt] at a b
      have e1 : (1 : Int32).toInt = 1 := rfl
      have e5 : (5 : Int32).toInt = 5 := rfl
      have k : t.toInt = 1 ∨ t.toInt = 2 ∨ t.toInt = 3 ∨ t.toInt = 4 ∨ t.toInt = 5 := by omega
      rcases k with k | k | k | k | k
      · exact h1 (Int32.toInt_inj.mp k)
      · exact h2 (Int32.toInt_inj.mp k)
      · exact h3 (Int32.toInt_inj.mp k)
      · exact h4 (Int32.toInt_inj.mp k)
      · exact h5 (Int32.toInt_inj.mp k)
theorem d3_0 : decode prog_45_method_2_code 0 = .ok (.iload_n 0, 1) := by decide +kernel
theorem d3_1 : decode prog_45_method_2_code 1 = .ok (.ifCond .lt 9, 3) := by decide +kernel
theorem d3_4 : decode prog_45_method_2_code 4 = .ok (.iload_n 0, 1) := by decide +kernel
theorem d3_5 : decode prog_45_method_2_code 5 = .ok (.ldc 9, 2) := by decide +kernel
theorem d3_7 : decode prog_45_method_2_code 7 = .ok (.if_icmp .le 18, 3) := by decide +kernel
theorem d3_25 : decode prog_45_method_2_code 25 = .ok (.return_, 1) := by decide +kernel
theorem own_pn0 : plainName "com/example/palaver/palaver/protocol/Bytes" = true := by first | (simp [plainName, overriddenIn]; done) | decide +kernel
theorem ef_rmQ (m : MethodId) (x0 : Int32) (x1 : Addr) : entryFrame m #[(.int x0), (.ref x1)] 2 = mkF m 0 #[.val (.int x0), .val (.ref x1)] [] := by first | (simp [entryFrame, mkF, argsToLocals, Value.category]; done) | rfl
def Q_rmQ (Z : State) (i0 : Int32) (r1 : Addr) (h0 : Heap) (n0 : Nat) (v : Option Value) (h : Heap) (L : List Loc) : Prop := v = none ∧ Fr n0 L ∧ h = h0
set_option maxRecDepth 65536 in
set_option maxHeartbeats 40000000 in
theorem rmQ (l : Launch) (Z : State) (a0 : Array Value) (hw : ∀ d ∈ tables_1, d.before a0 Z = true) (ws : List Jvm.Cond) (i0 : Int32) (r1 : Addr) (h0 : Heap) (n0 : Nat) (Z0 : n0 ≤ h0.size) (hlo : ¬ i0 < 0) (hhi : ¬ (65535 : Int32) < i0) :
    MetFree l (⟨"com/example/palaver/palaver/protocol/Bytes", "requireU16", "(ILjava/lang/String;)V"⟩ : MethodName) (head1 (Jvm.Cond.code (⟨"com/example/palaver/palaver/protocol/Bytes", "requireU16", "(ILjava/lang/String;)V"⟩ : MethodName) prog_45_method_2_code 2 none :: ws) ({ frames := 0, cells := 0, slots := 0, locals := 0 } : Room)) (fun a U => a = #[(.int i0), (.ref r1)] ∧ Z.Warmed39 U.vm ∧ U.heap = h0) (fun _ _ _ _ _ => True) (fun _ U o U' => ∃ v L, o = .returned v ∧ Q_rmQ Z i0 r1 h0 n0 v U'.heap L ∧ FrameEnd U o U' L ({ frames := 0, cells := 0, slots := 0, locals := 0 } : Room).cells ({ frames := 0, cells := 0, slots := 0, locals := 0 } : Room).slots) := by
  refine MetFree.of_bodySF (plainFor_of_name own_pn0) hisR ?_
  intro p e s m args below meth c s₁ Bd hml0 hP hK
  obtain ⟨rfl, hZ, hh⟩ := hP
  have hx := Bd.exec
  have hby := Bd.bytes
  have hml : c.maxLocals = 2 := hml0
  have hown : s.vm.findClass "com/example/palaver/palaver/protocol/Bytes" = some m.cls := findClass_of_methodNamed Bd.named
  have hnm := (name_of_methodNamed Bd.named Bd.method).1
  have X0 : Stand p l e ({ frames := 0, cells := 0, slots := 0, locals := 0 } : Room) s m #[(.int i0), (.ref r1)] below meth c s₁ [] 0 0 := Stand.of_body Bd
  have e0 : s₁.heap = h0 := by rw [← hh, Bd.state]; rfl
  show own_Go p e below (s₁.setTop (entryFrame m #[(.int i0), (.ref r1)] 2)) (fun t o => ∃ v L, o = .returned v ∧ Q_rmQ Z i0 r1 h0 n0 v t.heap L ∧ FrameEnd s o t L ({ frames := 0, cells := 0, slots := 0, locals := 0 } : Room).cells ({ frames := 0, cells := 0, slots := 0, locals := 0 } : Room).slots)
  refine own_by (B := s₁.setTop (mkF m 0 #[.val (.int i0), .val (.ref r1)] [])) (fun t k => castTop (ef_rmQ m i0 r1) k) ?_
  have Nf := Fr.nil n0
  have Zs := Z0
  refine own_by (B := s₁.setTop (mkF m 1 #[.val (.int i0), .val (.ref r1)] [(.int i0)])) (fun t k => XS.iloadN X0.here hx rfl (hb hby d3_0) rfl k) ?_
  refine own_by (B := s₁.setTop (mkF m 4 #[.val (.int i0), .val (.ref r1)] [])) (fun t k => XS.ifNo X0.here hx rfl (hb hby d3_1) rfl ((if0 _ _).trans (flt hlo).1) k) ?_
  refine own_by (B := s₁.setTop (mkF m 5 #[.val (.int i0), .val (.ref r1)] [(.int i0)])) (fun t k => XS.iloadN X0.here hx rfl (hb hby d3_4) rfl k) ?_
  refine own_by (B := s₁.setTop (mkF m 7 #[.val (.int i0), .val (.ref r1)] [(.int (65535 : Int32)), (.int i0)])) (fun t k => X0.ldcInt hx hown (mvT hZ (hw _ (List.mem_of_getElem? (i := 22) rfl))) (g := (mkF m 5 #[.val (.int i0), .val (.ref r1)] [(.int i0)])) rfl (hb hby d3_5) _ k) ?_
  refine own_by (B := s₁.setTop (mkF m 25 #[.val (.int i0), .val (.ref r1)] [])) (fun t k => XS.icmpYes X0.here hx rfl (pc0 := 7) (pc' := 25) rfl (hb hby d3_7) rfl (flt hhi).2.2.2 (by decide) (by decide) k) ?_
  exact own_end X0 (v := none) (fun _ => rfl) (BodyLoose.notSynchronized Bd) (Q := (Q_rmQ Z i0 r1 h0 n0)) (fun fs hr => X0.returnOut hx Bd.returns (hb hby d3_25) hr) (show (Q_rmQ Z i0 r1 h0 n0) _ s₁.heap _ from (by rw [e0]; exact ⟨rfl, Nf, rfl⟩)) (by decide) (by decide)
theorem d4_0 : decode prog_46_method_8_code 0 = .ok (.aload_n 0, 1) := by decide +kernel
theorem d4_1 : decode prog_46_method_8_code 1 = .ok (.getfield 28, 3) := by decide +kernel
theorem d4_4 : decode prog_46_method_8_code 4 = .ok (.iconst 1, 1) := by decide +kernel
theorem d4_5 : decode prog_46_method_8_code 5 = .ok (.if_icmp .lt 15, 3) := by decide +kernel
theorem d4_8 : decode prog_46_method_8_code 8 = .ok (.aload_n 0, 1) := by decide +kernel
theorem d4_9 : decode prog_46_method_8_code 9 = .ok (.getfield 28, 3) := by decide +kernel
theorem d4_12 : decode prog_46_method_8_code 12 = .ok (.iconst 5, 1) := by decide +kernel
theorem d4_13 : decode prog_46_method_8_code 13 = .ok (.if_icmp .gt 7, 3) := by decide +kernel
theorem d4_16 : decode prog_46_method_8_code 16 = .ok (.iconst 1, 1) := by decide +kernel
theorem d4_17 : decode prog_46_method_8_code 17 = .ok (.goto 4, 3) := by decide +kernel
theorem d4_20 : decode prog_46_method_8_code 20 = .ok (.iconst 0, 1) := by decide +kernel
theorem d4_21 : decode prog_46_method_8_code 21 = .ok (.ireturn, 1) := by decide +kernel
theorem own_pn1 : plainName "com/example/palaver/palaver/protocol/FlapFrame" = true := by first | (simp [plainName, overriddenIn]; done) | decide +kernel
theorem ef_rmK (m : MethodId) (x0 : Addr) : entryFrame m #[(.ref x0)] 1 = mkF m 0 #[.val (.ref x0)] [] := by first | (simp [entryFrame, mkF, argsToLocals, Value.category]; done) | rfl
def Q_rmK (Z : State) (r0 : Addr) (i1 : Int32) (h0 : Heap) (n0 : Nat) (v : Option Value) (h : Heap) (L : List Loc) : Prop := v = some (.int (own_known i1)) ∧ Fr n0 L ∧ h = h0
set_option maxRecDepth 65536 in
set_option maxHeartbeats 40000000 in
theorem rmK (l : Launch) (Z : State) (a0 : Array Value) (hw : ∀ d ∈ tables_1, d.before a0 Z = true) (ws : List Jvm.Cond) (r0 : Addr) (i1 : Int32) (h0 : Heap) (n0 : Nat) (Z0 : n0 ≤ h0.size) (F_type_r0 : Fld Z h0 r0 "com/example/palaver/palaver/protocol/FlapFrame" "type" "I" (.int i1)) :
    MetFree l (⟨"com/example/palaver/palaver/protocol/FlapFrame", "hasKnownType", "()Z"⟩ : MethodName) (head1 (Jvm.Cond.code (⟨"com/example/palaver/palaver/protocol/FlapFrame", "hasKnownType", "()Z"⟩ : MethodName) prog_46_method_8_code 1 (some .boolean) :: ws) ({ frames := 0, cells := 0, slots := 0, locals := 0 } : Room)) (fun a U => a = #[(.ref r0)] ∧ Z.Warmed39 U.vm ∧ U.heap = h0) (fun _ _ _ _ _ => True) (fun _ U o U' => ∃ v L, o = .returned v ∧ Q_rmK Z r0 i1 h0 n0 v U'.heap L ∧ FrameEnd U o U' L ({ frames := 0, cells := 0, slots := 0, locals := 0 } : Room).cells ({ frames := 0, cells := 0, slots := 0, locals := 0 } : Room).slots) := by
  refine MetFree.of_bodySF (plainFor_of_name own_pn1) hisR ?_
  intro p e s m args below meth c s₁ Bd hml0 hP hK
  obtain ⟨rfl, hZ, hh⟩ := hP
  have hx := Bd.exec
  have hby := Bd.bytes
  have hml : c.maxLocals = 1 := hml0
  have hown : s.vm.findClass "com/example/palaver/palaver/protocol/FlapFrame" = some m.cls := findClass_of_methodNamed Bd.named
  have hnm := (name_of_methodNamed Bd.named Bd.method).1
  have X0 : Stand p l e ({ frames := 0, cells := 0, slots := 0, locals := 0 } : Room) s m #[(.ref r0)] below meth c s₁ [] 0 0 := Stand.of_body Bd
  have e0 : s₁.heap = h0 := by rw [← hh, Bd.state]; rfl
  show own_Go p e below (s₁.setTop (entryFrame m #[(.ref r0)] 1)) (fun t o => ∃ v L, o = .returned v ∧ Q_rmK Z r0 i1 h0 n0 v t.heap L ∧ FrameEnd s o t L ({ frames := 0, cells := 0, slots := 0, locals := 0 } : Room).cells ({ frames := 0, cells := 0, slots := 0, locals := 0 } : Room).slots)
  refine own_by (B := s₁.setTop (mkF m 0 #[.val (.ref r0)] [])) (fun t k => castTop (ef_rmK m r0) k) ?_
  have Nf := Fr.nil n0
  have Zs := Z0
  refine own_by (B := s₁.setTop (mkF m 1 #[.val (.ref r0)] [(.ref r0)])) (fun t k => XS.aloadN X0.here hx rfl (hb hby d4_0) rfl rfl k) ?_
  obtain ⟨T1, X1, e1, st1⟩ := getF X0 hx hZ hown (host := "") (Or.inl (hw _ (List.mem_of_getElem? (i := 24) rfl))) Via.refl e0 F_type_r0 (g := (mkF m 1 #[.val (.ref r0)] [(.ref r0)])) rfl rfl (hb hby d4_1)
  refine own_by (B := T1.setTop (mkF m 4 #[.val (.ref r0)] [(.int i1)])) st1 ?_
  refine own_by (B := T1.setTop (mkF m 5 #[.val (.ref r0)] [(.int (1 : Int32)), (.int i1)])) (fun t k => XS.iconst X1.here hx rfl (hb hby d4_4) k) ?_
  by_cases hc5 : i1 < (1 : Int32)
  · refine own_by (B := T1.setTop (mkF m 20 #[.val (.ref r0)] [])) (fun t k => XS.icmpYes X1.here hx rfl (pc0 := 5) (pc' := 20) rfl (hb hby d4_5) rfl (tlt hc5).1 (by decide) (by decide) k) ?_
    refine own_by (B := T1.setTop (mkF m 21 #[.val (.ref r0)] [(.int (0 : Int32))])) (fun t k => XS.iconst X1.here hx rfl (hb hby d4_20) k) ?_
    exact own_end X1 (v := some (.int (0 : Int32))) (fun h => by rw [Bd.returns] at h; cases h) (BodyLoose.notSynchronized Bd) (Q := (Q_rmK Z r0 i1 h0 n0)) (fun fs hr => retN X1 hx (t := .boolean) Bd.returns (by simp) (hb hby d4_21) hr) (show (Q_rmK Z r0 i1 h0 n0) _ T1.heap _ from (by rw [e1]; exact ⟨congrArg (fun z => some (Value.int z)) (by simp [own_known, nar, hc5]), Nf, rfl⟩)) (by decide) (by decide)
  · refine own_by (B := T1.setTop (mkF m 8 #[.val (.ref r0)] [])) (fun t k => XS.icmpNo X1.here hx rfl (hb hby d4_5) rfl (flt hc5).1 k) ?_
    refine own_by (B := T1.setTop (mkF m 9 #[.val (.ref r0)] [(.ref r0)])) (fun t k => XS.aloadN X1.here hx rfl (hb hby d4_8) rfl rfl k) ?_
    obtain ⟨T2, X2, e2, st2⟩ := getF X1 hx hZ hown (host := "") (Or.inl (hw _ (List.mem_of_getElem? (i := 24) rfl))) Via.refl e1 F_type_r0 (g := (mkF m 9 #[.val (.ref r0)] [(.ref r0)])) rfl rfl (hb hby d4_9)
    refine own_by (B := T2.setTop (mkF m 12 #[.val (.ref r0)] [(.int i1)])) st2 ?_
    refine own_by (B := T2.setTop (mkF m 13 #[.val (.ref r0)] [(.int (5 : Int32)), (.int i1)])) (fun t k => XS.iconst X2.here hx rfl (hb hby d4_12) k) ?_
    by_cases hc13 : (5 : Int32) < i1
    · refine own_by (B := T2.setTop (mkF m 20 #[.val (.ref r0)] [])) (fun t k => XS.icmpYes X2.here hx rfl (pc0 := 13) (pc' := 20) rfl (hb hby d4_13) rfl (tlt hc13).2.2.1 (by decide) (by decide) k) ?_
      refine own_by (B := T2.setTop (mkF m 21 #[.val (.ref r0)] [(.int (0 : Int32))])) (fun t k => XS.iconst X2.here hx rfl (hb hby d4_20) k) ?_
      exact own_end X2 (v := some (.int (0 : Int32))) (fun h => by rw [Bd.returns] at h; cases h) (BodyLoose.notSynchronized Bd) (Q := (Q_rmK Z r0 i1 h0 n0)) (fun fs hr => retN X2 hx (t := .boolean) Bd.returns (by simp) (hb hby d4_21) hr) (show (Q_rmK Z r0 i1 h0 n0) _ T2.heap _ from (by rw [e2]; exact ⟨congrArg (fun z => some (Value.int z)) (by simp [own_known, nar, hc5, hc13]), Nf, rfl⟩)) (by decide) (by decide)
    · refine own_by (B := T2.setTop (mkF m 16 #[.val (.ref r0)] [])) (fun t k => XS.icmpNo X2.here hx rfl (hb hby d4_13) rfl (flt hc13).2.2.1 k) ?_
      refine own_by (B := T2.setTop (mkF m 17 #[.val (.ref r0)] [(.int (1 : Int32))])) (fun t k => XS.iconst X2.here hx rfl (hb hby d4_16) k) ?_
      refine own_by (B := T2.setTop (mkF m 21 #[.val (.ref r0)] [(.int (1 : Int32))])) (fun t k => XS.goto X2.here hx rfl (pc0 := 17) (pc' := 21) rfl (hb hby d4_17) (by decide) (by decide) k) ?_
      exact own_end X2 (v := some (.int (1 : Int32))) (fun h => by rw [Bd.returns] at h; cases h) (BodyLoose.notSynchronized Bd) (Q := (Q_rmK Z r0 i1 h0 n0)) (fun fs hr => retN X2 hx (t := .boolean) Bd.returns (by simp) (hb hby d4_21) hr) (show (Q_rmK Z r0 i1 h0 n0) _ T2.heap _ from (by rw [e2]; exact ⟨congrArg (fun z => some (Value.int z)) (by simp [own_known, nar, hc5, hc13]), Nf, rfl⟩)) (by decide) (by decide)
theorem d5_0 : decode prog_46_method_7_code 0 = .ok (.aload_n 0, 1) := by decide +kernel
theorem d5_1 : decode prog_46_method_7_code 1 = .ok (.getfield 28, 3) := by decide +kernel
theorem d5_4 : decode prog_46_method_7_code 4 = .ok (.ireturn, 1) := by decide +kernel
theorem ef_rmT (m : MethodId) (x0 : Addr) : entryFrame m #[(.ref x0)] 1 = mkF m 0 #[.val (.ref x0)] [] := by first | (simp [entryFrame, mkF, argsToLocals, Value.category]; done) | rfl
def Q_rmT (Z : State) (r0 : Addr) (i1 : Int32) (h0 : Heap) (n0 : Nat) (v : Option Value) (h : Heap) (L : List Loc) : Prop := v = some (.int i1) ∧ Fr n0 L ∧ h = h0
set_option maxRecDepth 65536 in
set_option maxHeartbeats 40000000 in
theorem rmT (l : Launch) (Z : State) (a0 : Array Value) (hw : ∀ d ∈ tables_1, d.before a0 Z = true) (ws : List Jvm.Cond) (r0 : Addr) (i1 : Int32) (h0 : Heap) (n0 : Nat) (Z0 : n0 ≤ h0.size) (F_type_r0 : Fld Z h0 r0 "com/example/palaver/palaver/protocol/FlapFrame" "type" "I" (.int i1)) :
    MetFree l (⟨"com/example/palaver/palaver/protocol/FlapFrame", "type", "()I"⟩ : MethodName) (head1 (Jvm.Cond.code (⟨"com/example/palaver/palaver/protocol/FlapFrame", "type", "()I"⟩ : MethodName) prog_46_method_7_code 1 (some .int) :: ws) ({ frames := 0, cells := 0, slots := 0, locals := 0 } : Room)) (fun a U => a = #[(.ref r0)] ∧ Z.Warmed39 U.vm ∧ U.heap = h0) (fun _ _ _ _ _ => True) (fun _ U o U' => ∃ v L, o = .returned v ∧ Q_rmT Z r0 i1 h0 n0 v U'.heap L ∧ FrameEnd U o U' L ({ frames := 0, cells := 0, slots := 0, locals := 0 } : Room).cells ({ frames := 0, cells := 0, slots := 0, locals := 0 } : Room).slots) := by
  refine MetFree.of_bodySF (plainFor_of_name own_pn1) hisR ?_
  intro p e s m args below meth c s₁ Bd hml0 hP hK
  obtain ⟨rfl, hZ, hh⟩ := hP
  have hx := Bd.exec
  have hby := Bd.bytes
  have hml : c.maxLocals = 1 := hml0
  have hown : s.vm.findClass "com/example/palaver/palaver/protocol/FlapFrame" = some m.cls := findClass_of_methodNamed Bd.named
  have hnm := (name_of_methodNamed Bd.named Bd.method).1
  have X0 : Stand p l e ({ frames := 0, cells := 0, slots := 0, locals := 0 } : Room) s m #[(.ref r0)] below meth c s₁ [] 0 0 := Stand.of_body Bd
  have e0 : s₁.heap = h0 := by rw [← hh, Bd.state]; rfl
  show own_Go p e below (s₁.setTop (entryFrame m #[(.ref r0)] 1)) (fun t o => ∃ v L, o = .returned v ∧ Q_rmT Z r0 i1 h0 n0 v t.heap L ∧ FrameEnd s o t L ({ frames := 0, cells := 0, slots := 0, locals := 0 } : Room).cells ({ frames := 0, cells := 0, slots := 0, locals := 0 } : Room).slots)
  refine own_by (B := s₁.setTop (mkF m 0 #[.val (.ref r0)] [])) (fun t k => castTop (ef_rmT m r0) k) ?_
  have Nf := Fr.nil n0
  have Zs := Z0
  refine own_by (B := s₁.setTop (mkF m 1 #[.val (.ref r0)] [(.ref r0)])) (fun t k => XS.aloadN X0.here hx rfl (hb hby d5_0) rfl rfl k) ?_
  obtain ⟨T1, X1, e1, st1⟩ := getF X0 hx hZ hown (host := "") (Or.inl (hw _ (List.mem_of_getElem? (i := 24) rfl))) Via.refl e0 F_type_r0 (g := (mkF m 1 #[.val (.ref r0)] [(.ref r0)])) rfl rfl (hb hby d5_1)
  refine own_by (B := T1.setTop (mkF m 4 #[.val (.ref r0)] [(.int i1)])) st1 ?_
  exact own_end X1 (v := some (.int i1)) (fun h => by rw [Bd.returns] at h; cases h) (BodyLoose.notSynchronized Bd) (Q := (Q_rmT Z r0 i1 h0 n0)) (fun fs hr => retI X1 hx Bd.returns (hb hby d5_4) hr) (show (Q_rmT Z r0 i1 h0 n0) _ T1.heap _ from (by rw [e1]; exact ⟨rfl, Nf, rfl⟩)) (by decide) (by decide)
theorem own_pd0 : parseMethodDescriptor "(ILjava/lang/String;)V" = some ⟨[.int, (.object "java/lang/String")], none⟩ := by decide +kernel
theorem d1_0 : decode prog_46_method_1_code 0 = .ok (.aload_n 0, 1) := by decide +kernel
theorem d1_1 : decode prog_46_method_1_code 1 = .ok (.invokespecial 1, 3) := by decide +kernel
theorem d1_4 : decode prog_46_method_1_code 4 = .ok (.iload_n 1, 1) := by decide +kernel
theorem d1_5 : decode prog_46_method_1_code 5 = .ok (.ifCond .lt 10, 3) := by decide +kernel
theorem d1_8 : decode prog_46_method_1_code 8 = .ok (.iload_n 1, 1) := by decide +kernel
theorem d1_9 : decode prog_46_method_1_code 9 = .ok (.sipush 255, 3) := by decide +kernel
theorem d1_12 : decode prog_46_method_1_code 12 = .ok (.if_icmp .le 17, 3) := by decide +kernel
theorem d1_29 : decode prog_46_method_1_code 29 = .ok (.iload_n 2, 1) := by decide +kernel
theorem d1_30 : decode prog_46_method_1_code 30 = .ok (.ldc 18, 2) := by decide +kernel
theorem d1_32 : decode prog_46_method_1_code 32 = .ok (.invokestatic 20, 3) := by decide +kernel
theorem d1_35 : decode prog_46_method_1_code 35 = .ok (.aload_n 3, 1) := by decide +kernel
theorem d1_36 : decode prog_46_method_1_code 36 = .ok (.arraylength, 1) := by decide +kernel
theorem d1_37 : decode prog_46_method_1_code 37 = .ok (.ldc 26, 2) := by decide +kernel
theorem d1_39 : decode prog_46_method_1_code 39 = .ok (.if_icmp .le 18, 3) := by decide +kernel
theorem d1_57 : decode prog_46_method_1_code 57 = .ok (.aload_n 0, 1) := by decide +kernel
theorem d1_58 : decode prog_46_method_1_code 58 = .ok (.iload_n 1, 1) := by decide +kernel
theorem d1_59 : decode prog_46_method_1_code 59 = .ok (.putfield 28, 3) := by decide +kernel
theorem d1_62 : decode prog_46_method_1_code 62 = .ok (.aload_n 0, 1) := by decide +kernel
theorem d1_63 : decode prog_46_method_1_code 63 = .ok (.iload_n 2, 1) := by decide +kernel
theorem d1_64 : decode prog_46_method_1_code 64 = .ok (.putfield 32, 3) := by decide +kernel
theorem d1_67 : decode prog_46_method_1_code 67 = .ok (.aload_n 0, 1) := by decide +kernel
theorem d1_68 : decode prog_46_method_1_code 68 = .ok (.aload_n 3, 1) := by decide +kernel
theorem d1_69 : decode prog_46_method_1_code 69 = .ok (.invokevirtual 35, 3) := by decide +kernel
theorem d1_72 : decode prog_46_method_1_code 72 = .ok (.checkcast 36, 3) := by decide +kernel
theorem d1_75 : decode prog_46_method_1_code 75 = .ok (.putfield 41, 3) := by decide +kernel
theorem d1_78 : decode prog_46_method_1_code 78 = .ok (.return_, 1) := by decide +kernel
theorem ef_rmI (m : MethodId) (x0 : Addr) (x1 : Int32) (x2 : Int32) (x3 : Addr) : entryFrame m #[(.ref x0), (.int x1), (.int x2), (.ref x3)] 4 = mkF m 0 #[.val (.ref x0), .val (.int x1), .val (.int x2), .val (.ref x3)] [] := by first | (simp [entryFrame, mkF, argsToLocals, Value.category]; done) | rfl
def Q_rmI (Z : State) (r0 : Addr) (i1 : Int32) (i2 : Int32) (r3 : Addr) (f : Nat → Value) (h0 : Heap) (n0 : Nat) (v : Option Value) (h : Heap) (L : List Loc) : Prop := v = none ∧ Fr n0 L ∧ Keep h0 h [r0] ∧ Fld Z h r0 "com/example/palaver/palaver/protocol/FlapFrame" "type" "I" (.int i1)
set_option maxRecDepth 65536 in
set_option maxHeartbeats 40000000 in
theorem rmI (l : Launch) (Z : State) (a0 : Array Value) (hw : ∀ d ∈ tables_1, d.before a0 Z = true) (ws : List Jvm.Cond) (r0 : Addr) (i1 : Int32) (i2 : Int32) (r3 : Addr) (f : Nat → Value) (h0 : Heap) (n0 : Nat) (Z0 : n0 ≤ h0.size) (E_r0 : Exa Z h0 r0 "com/example/palaver/palaver/protocol/FlapFrame") (F_type_r0 : Fld Z h0 r0 "com/example/palaver/palaver/protocol/FlapFrame" "type" "I" (.int (0 : Int32))) (F_sequence_r0 : Fld Z h0 r0 "com/example/palaver/palaver/protocol/FlapFrame" "sequence" "I" (.int (0 : Int32))) (F_payload_r0 : Fld Z h0 r0 "com/example/palaver/palaver/protocol/FlapFrame" "payload" "[B" .null) (g_r0 : n0 ≤ r0) (ne_r0_r3 : r0 ≠ r3) (E_r3 : Exa Z h0 r3 "[B") (V_r3 : own_Arf Z h0 r3 .byte (1 : Int32) f) (hfb : ∀ i, fits .byte (f i) = true) (hlo1 : ¬ i1 < 0) (hhi1 : ¬ (255 : Int32) < i1) (hlo2 : ¬ i2 < 0) (hhi2 : ¬ (65535 : Int32) < i2) :
    MetFree l (⟨"com/example/palaver/palaver/protocol/FlapFrame", "<init>", "(II[B)V"⟩ : MethodName) (head1 (Jvm.Cond.code (⟨"com/example/palaver/palaver/protocol/FlapFrame", "<init>", "(II[B)V"⟩ : MethodName) prog_46_method_1_code 4 none :: ws) ({ frames := 1, cells := 3, slots := 65, locals := 15 } : Room)) (fun a U => a = #[(.ref r0), (.int i1), (.int i2), (.ref r3)] ∧ Z.Warmed39 U.vm ∧ U.heap = h0) (fun _ _ _ _ _ => True) (fun _ U o U' => ∃ v L, o = .returned v ∧ Q_rmI Z r0 i1 i2 r3 f h0 n0 v U'.heap L ∧ ReturnedEndW U o U' L ({ frames := 1, cells := 3, slots := 65, locals := 15 } : Room).cells ({ frames := 1, cells := 3, slots := 65, locals := 15 } : Room).slots) := by
  refine MetFree.of_bodySF (plainFor_of_name own_pn1) hisR ?_
  intro p e s m args below meth c s₁ Bd hml0 hP hK
  obtain ⟨rfl, hZ, hh⟩ := hP
  have hx := Bd.exec
  have hby := Bd.bytes
  have hml : c.maxLocals = 4 := hml0
  have hown : s.vm.findClass "com/example/palaver/palaver/protocol/FlapFrame" = some m.cls := findClass_of_methodNamed Bd.named
  have hnm := (name_of_methodNamed Bd.named Bd.method).1
  have X0 : Stand p l e ({ frames := 1, cells := 3, slots := 65, locals := 15 } : Room) s m #[(.ref r0), (.int i1), (.int i2), (.ref r3)] below meth c s₁ [] 0 0 := Stand.of_body Bd
  have e0 : s₁.heap = h0 := by rw [← hh, Bd.state]; rfl
  show own_Go p e below (s₁.setTop (entryFrame m #[(.ref r0), (.int i1), (.int i2), (.ref r3)] 4)) (fun t o => ∃ v L, o = .returned v ∧ Q_rmI Z r0 i1 i2 r3 f h0 n0 v t.heap L ∧ ReturnedEndW s o t L ({ frames := 1, cells := 3, slots := 65, locals := 15 } : Room).cells ({ frames := 1, cells := 3, slots := 65, locals := 15 } : Room).slots)
  have X0 : Stand p l e ({ frames := 1, cells := 3, slots := 65, locals := 15 } : Room) (s.setVm s.vm) m #[(.ref r0), (.int i1), (.int i2), (.ref r3)] below meth c s₁ [] 0 0 := X0
  have hZ : Z.Warmed39 (s.setVm s.vm).vm := hZ
  have hown : (s.setVm s.vm).vm.findClass "com/example/palaver/palaver/protocol/FlapFrame" = some m.cls := hown
  have hS : s.Since s.vm h0.size := (State.WarmedH.refl s).since _
  have Zk : h0.size ≤ h0.size := Nat.le_refl _
  refine own_by (B := s₁.setTop (mkF m 0 #[.val (.ref r0), .val (.int i1), .val (.int i2), .val (.ref r3)] [])) (fun t k => castTop (ef_rmI m r0 i1 i2 r3) k) ?_
  have Nf := Fr.nil n0
  have Zs := Z0
  have Kp := Keep.refl h0 [r0]
  refine own_by (B := s₁.setTop (mkF m 1 #[.val (.ref r0), .val (.int i1), .val (.int i2), .val (.ref r3)] [(.ref r0)])) (fun t k => XS.aloadN X0.here hx rfl (hb hby d1_0) rfl rfl k) ?_
  obtain ⟨T1, X1, e1, st1⟩ := initO X0 hx hZ hown (hw _ (List.mem_of_getElem? (i := 8) rfl)) (hw _ (List.mem_of_getElem? (i := 9) rfl)) (hw _ (List.mem_of_getElem? (i := 10) rfl)) e0 (g := (mkF m 1 #[.val (.ref r0), .val (.int i1), .val (.int i2), .val (.ref r3)] [(.ref r0)])) rfl (by rw [hml]; rfl) rfl (hb hby d1_1) (by decide) (W := 0) (by show 2 * 0 + _ ≤ _; exact Nat.le_of_eq rfl) (by decide)
  refine own_by (B := T1.setTop (mkF m 4 #[.val (.ref r0), .val (.int i1), .val (.int i2), .val (.ref r3)] [])) st1 ?_
  refine own_by (B := T1.setTop (mkF m 5 #[.val (.ref r0), .val (.int i1), .val (.int i2), .val (.ref r3)] [(.int i1)])) (fun t k => XS.iloadN X1.here hx rfl (hb hby d1_4) rfl k) ?_
  refine own_by (B := T1.setTop (mkF m 8 #[.val (.ref r0), .val (.int i1), .val (.int i2), .val (.ref r3)] [])) (fun t k => XS.ifNo X1.here hx rfl (hb hby d1_5) rfl ((if0 _ _).trans (flt hlo1).1) k) ?_
  refine own_by (B := T1.setTop (mkF m 9 #[.val (.ref r0), .val (.int i1), .val (.int i2), .val (.ref r3)] [(.int i1)])) (fun t k => XS.iloadN X1.here hx rfl (hb hby d1_8) rfl k) ?_
  refine own_by (B := T1.setTop (mkF m 12 #[.val (.ref r0), .val (.int i1), .val (.int i2), .val (.ref r3)] [(.int (255 : Int32)), (.int i1)])) (fun t k => XS.sipush X1.here hx rfl (hb hby d1_9) k) ?_
  refine own_by (B := T1.setTop (mkF m 29 #[.val (.ref r0), .val (.int i1), .val (.int i2), .val (.ref r3)] [])) (fun t k => XS.icmpYes X1.here hx rfl (pc0 := 12) (pc' := 29) rfl (hb hby d1_12) rfl (flt hhi1).2.2.2 (by decide) (by decide) k) ?_
  refine own_by (B := T1.setTop (mkF m 30 #[.val (.ref r0), .val (.int i1), .val (.int i2), .val (.ref r3)] [(.int i2)])) (fun t k => XS.iloadN X1.here hx rfl (hb hby d1_29) rfl k) ?_
  obtain ⟨a2, T2, h2, kk2, X2, e2, E2, hS, Zk, hZ, hown, st2⟩ := ldcS X1 hx hZ hown (hw _ (List.mem_of_getElem? (i := 11) rfl)) (own_wS hw) e1 hS Zk (g := (mkF m 30 #[.val (.ref r0), .val (.int i1), .val (.int i2), .val (.ref r3)] [(.int i2)])) rfl (hb hby d1_30) (n := 60) (by decide) (by decide) (by decide) (by decide)
  have E_r0 := E_r0.ext E2
  have F_type_r0 := F_type_r0.ext E2
  have F_sequence_r0 := F_sequence_r0.ext E2
  have F_payload_r0 := F_payload_r0.ext E2
  have E_r3 := E_r3.ext E2
  have V_r3 := V_r3.ext E2
  have Zs := Nat.le_trans Zs E2.1
  have Kp := Kp.ext E2
  refine own_by (B := T2.setTop (mkF m 32 #[.val (.ref r0), .val (.int i1), .val (.int i2), .val (.ref r3)] [(.ref a2), (.int i2)])) st2 ?_
  obtain ⟨_, _, ⟨T3, L3, k3, n3⟩, -, X3, ⟨Lc3, hQ3, l3, y3, z3⟩, st3⟩ := Jvm.LawKit.callS X2 hx (y := (⟨"com/example/palaver/palaver/protocol/Bytes", "requireU16", "(ILjava/lang/String;)V"⟩ : MethodName)) hown (mvT hZ (hw _ (List.mem_of_getElem? (i := 18) rfl))) (mvT hZ (hw _ (List.mem_of_getElem? (i := 19) rfl))) (mvT hZ (hw _ (List.mem_of_getElem? (i := 20) rfl))) (mvT hZ (hw _ (List.mem_of_getElem? (i := 21) rfl))) (by decide) (backOf (W := 0) (rmQ l Z a0 hw [] i2 a2 h2 n0 Zs hlo2 hhi2) hZ (hw _ (List.mem_of_getElem? (i := 21) rfl)) (hw _ (List.mem_of_getElem? (i := 20) rfl)) (by decide) (by decide)) (g := (mkF m 32 #[.val (.ref r0), .val (.int i1), .val (.int i2), .val (.ref r3)] [(.ref a2), (.int i2)])) rfl (by rw [hml]; rfl) (argsL := [(.int i2), (.ref a2)]) (rest := []) (lenOf own_pd0 rfl) rfl (by show 2 * 0 + _ ≤ _; exact Nat.le_of_eq rfl) (hb hby d1_32) (fun _ _ => ⟨rfl, e2, (by decide : 2 + 0 ≤ _), (by decide : 64 + 0 ≤ _)⟩)
  dsimp only [Pt.U, Pt.locs, Pt.cells, Pt.slots] at X3 l3 y3 z3 st3 hQ3
  subst l3 y3 z3
  obtain ⟨rfl, Nq3, hp3⟩ := hQ3
  have Nf := Fr.app Nf Nq3
  have ec3 : T3.heap = h2 := hp3
  refine own_by (B := T3.setTop (mkF m 35 #[.val (.ref r0), .val (.int i1), .val (.int i2), .val (.ref r3)] [])) st3 ?_
  refine own_by (B := T3.setTop (mkF m 36 #[.val (.ref r0), .val (.int i1), .val (.int i2), .val (.ref r3)] [(.ref r3)])) (fun t k => XS.aloadN X3.here hx rfl (hb hby d1_35) rfl rfl k) ?_
  obtain ⟨cl4, Ar4, Sz4, Ng4, -⟩ := id V_r3
  refine own_by (B := T3.setTop (mkF m 37 #[.val (.ref r0), .val (.int i1), .val (.int i2), .val (.ref r3)] [(.int (1 : Int32))])) (fun t k => X3.arraylength hx (by rw [ec3]; exact Ar4.1) (State.isArrayOf_alike hZ.alike Ar4.2.1) (g := (mkF m 36 #[.val (.ref r0), .val (.int i1), .val (.int i2), .val (.ref r3)] [(.ref r3)])) rfl rfl (hb hby d1_36) _ (by rw [len_of Sz4 Ng4]; exact k)) ?_
  refine own_by (B := T3.setTop (mkF m 39 #[.val (.ref r0), .val (.int i1), .val (.int i2), .val (.ref r3)] [(.int (65535 : Int32)), (.int (1 : Int32))])) (fun t k => X3.ldcInt hx hown (mvT hZ (hw _ (List.mem_of_getElem? (i := 23) rfl))) (g := (mkF m 37 #[.val (.ref r0), .val (.int i1), .val (.int i2), .val (.ref r3)] [(.int (1 : Int32))])) rfl (hb hby d1_37) _ k) ?_
  refine own_by (B := T3.setTop (mkF m 57 #[.val (.ref r0), .val (.int i1), .val (.int i2), .val (.ref r3)] [])) (fun t k => XS.icmpYes X3.here hx rfl (pc0 := 39) (pc' := 57) rfl (hb hby d1_39) rfl (flt (by decide)).2.2.2 (by decide) (by decide) k) ?_
  refine own_by (B := T3.setTop (mkF m 58 #[.val (.ref r0), .val (.int i1), .val (.int i2), .val (.ref r3)] [(.ref r0)])) (fun t k => XS.aloadN X3.here hx rfl (hb hby d1_57) rfl rfl k) ?_
  refine own_by (B := T3.setTop (mkF m 59 #[.val (.ref r0), .val (.int i1), .val (.int i2), .val (.ref r3)] [(.int i1), (.ref r0)])) (fun t k => XS.iloadN X3.here hx rfl (hb hby d1_58) rfl k) ?_
  obtain ⟨T5, h5, X5, e5, W5, st5⟩ := putF X3 hx hZ hown (host := "") (Or.inl (hw _ (List.mem_of_getElem? (i := 24) rfl))) Via.refl ec3 F_type_r0 E_r0 (Or.inr ⟨(hw _ (List.mem_of_getElem? (i := 25) rfl)), rfl, hnm⟩) (hw _ (List.mem_of_getElem? (i := 3) rfl)) (ty := .int) (by decide) rfl rfl (g := (mkF m 59 #[.val (.ref r0), .val (.int i1), .val (.int i2), .val (.ref r3)] [(.int i1), (.ref r0)])) rfl rfl (hb hby d1_59)
  have E_r0 := E_r0.wr W5
  have F_type_r0 := F_type_r0.same W5
  have F_sequence_r0 := F_sequence_r0.other W5 (Or.inr (slot_ne (Or.inr (hw _ (List.mem_of_getElem? (i := 27) rfl))) (Or.inr (hw _ (List.mem_of_getElem? (i := 25) rfl))) (by decide) (t := .int) (t' := .int) (by decide) (by decide)))
  have F_payload_r0 := F_payload_r0.other W5 (Or.inr (slot_ne (Or.inr (hw _ (List.mem_of_getElem? (i := 38) rfl))) (Or.inr (hw _ (List.mem_of_getElem? (i := 25) rfl))) (by decide) (t := (.array .byte)) (t' := .int) (by decide) (by decide)))
  have E_r3 := E_r3.wr W5
  have V_r3 := V_r3.other W5 (Ne.symm ne_r0_r3)
  have Zs : n0 ≤ h5.size := by rw [W5.size]; exact Zs
  have Zk := Nat.le_trans Zk (Nat.le_of_eq W5.size.symm)
  have Kp := Kp.wr W5 (Or.inl (List.mem_of_getElem? (i := 0) rfl))
  have Nf := Fr.snoc X5 Nf g_r0
  refine own_by (B := T5.setTop (mkF m 62 #[.val (.ref r0), .val (.int i1), .val (.int i2), .val (.ref r3)] [])) st5 ?_
  refine own_by (B := T5.setTop (mkF m 63 #[.val (.ref r0), .val (.int i1), .val (.int i2), .val (.ref r3)] [(.ref r0)])) (fun t k => XS.aloadN X5.here hx rfl (hb hby d1_62) rfl rfl k) ?_
  refine own_by (B := T5.setTop (mkF m 64 #[.val (.ref r0), .val (.int i1), .val (.int i2), .val (.ref r3)] [(.int i2), (.ref r0)])) (fun t k => XS.iloadN X5.here hx rfl (hb hby d1_63) rfl k) ?_
  obtain ⟨T6, h6, X6, e6, W6, st6⟩ := putF X5 hx hZ hown (host := "") (Or.inl (hw _ (List.mem_of_getElem? (i := 26) rfl))) Via.refl e5 F_sequence_r0 E_r0 (Or.inr ⟨(hw _ (List.mem_of_getElem? (i := 27) rfl)), rfl, hnm⟩) (hw _ (List.mem_of_getElem? (i := 3) rfl)) (ty := .int) (by decide) rfl rfl (g := (mkF m 64 #[.val (.ref r0), .val (.int i1), .val (.int i2), .val (.ref r3)] [(.int i2), (.ref r0)])) rfl rfl (hb hby d1_64)
  have E_r0 := E_r0.wr W6
  have F_type_r0 := F_type_r0.other W6 (Or.inr (slot_ne (Or.inr (hw _ (List.mem_of_getElem? (i := 25) rfl))) (Or.inr (hw _ (List.mem_of_getElem? (i := 27) rfl))) (by decide) (t := .int) (t' := .int) (by decide) (by decide)))
  have F_sequence_r0 := F_sequence_r0.same W6
  have F_payload_r0 := F_payload_r0.other W6 (Or.inr (slot_ne (Or.inr (hw _ (List.mem_of_getElem? (i := 38) rfl))) (Or.inr (hw _ (List.mem_of_getElem? (i := 27) rfl))) (by decide) (t := (.array .byte)) (t' := .int) (by decide) (by decide)))
  have E_r3 := E_r3.wr W6
  have V_r3 := V_r3.other W6 (Ne.symm ne_r0_r3)
  have Zs : n0 ≤ h6.size := by rw [W6.size]; exact Zs
  have Zk := Nat.le_trans Zk (Nat.le_of_eq W6.size.symm)
  have Kp := Kp.wr W6 (Or.inl (List.mem_of_getElem? (i := 0) rfl))
  have Nf := Fr.snoc X6 Nf g_r0
  refine own_by (B := T6.setTop (mkF m 67 #[.val (.ref r0), .val (.int i1), .val (.int i2), .val (.ref r3)] [])) st6 ?_
  refine own_by (B := T6.setTop (mkF m 68 #[.val (.ref r0), .val (.int i1), .val (.int i2), .val (.ref r3)] [(.ref r0)])) (fun t k => XS.aloadN X6.here hx rfl (hb hby d1_67) rfl rfl k) ?_
  refine own_by (B := T6.setTop (mkF m 69 #[.val (.ref r0), .val (.int i1), .val (.int i2), .val (.ref r3)] [(.ref r3), (.ref r0)])) (fun t k => XS.aloadN X6.here hx rfl (hb hby d1_68) rfl rfl k) ?_
  obtain ⟨clc, Arc, Szc, Ngc, Hsc⟩ := id V_r3
  obtain ⟨T7, h7, X7, e7, E7, Ac7, Ec7, st7⟩ := cloneA X6 hx hZ hown (hw _ (List.mem_of_getElem? (i := 28) rfl)) (hw _ (List.mem_of_getElem? (i := 29) rfl)) (hw _ (List.mem_of_getElem? (i := 33) rfl)) (hw _ (List.mem_of_getElem? (i := 31) rfl)) (hw _ (List.mem_of_getElem? (i := 32) rfl)) (hw _ (List.mem_of_getElem? (i := 34) rfl)) e6 Arc E_r3 (fitC_of Arc (fun i hi v hv => by rw [Hsc i hi] at hv; cases hv; exact hfb i)) (g := (mkF m 69 #[.val (.ref r0), .val (.int i1), .val (.int i2), .val (.ref r3)] [(.ref r3), (.ref r0)])) rfl (by rw [hml]; rfl) rfl (hb hby d1_69) (by decide) (W := 1) (cap := 1) (by show 2 * 0 + _ ≤ _; exact Nat.le_of_eq rfl) (by decide) (by rw [Szc]; decide) (by decide) (by decide)
  obtain ⟨b7, gq7⟩ : ∃ z, z = h6.size := ⟨_, rfl⟩
  rw [← gq7] at Ac7 Ec7 st7
  have ne_r0_b7 : r0 ≠ b7 := Nat.ne_of_lt (Nat.lt_of_lt_of_le E_r0.lt (Nat.le_of_eq gq7.symm))
  have ne_r3_b7 : r3 ≠ b7 := Nat.ne_of_lt (Nat.lt_of_lt_of_le E_r3.lt (Nat.le_of_eq gq7.symm))
  have g_b7 : n0 ≤ b7 := Nat.le_trans Zs (Nat.le_of_eq gq7.symm)
  have sz_b7 : h0.size ≤ b7 := Nat.le_trans Kp.1 (Nat.le_of_eq gq7.symm)
  have E_r0 := E_r0.ext E7
  have F_type_r0 := F_type_r0.ext E7
  have F_sequence_r0 := F_sequence_r0.ext E7
  have F_payload_r0 := F_payload_r0.ext E7
  have E_r3 := E_r3.ext E7
  have V_r3 := V_r3.ext E7
  have Zs := Nat.le_trans Zs E7.1
  have Zk := Nat.le_trans Zk E7.1
  have Kp := Kp.ext E7
  have E_b7 := Ec7
  refine own_by (B := T7.setTop (mkF m 72 #[.val (.ref r0), .val (.int i1), .val (.int i2), .val (.ref r3)] [(.ref b7), (.ref r0)])) st7 ?_
  obtain ⟨T8, X8, e8, st8⟩ := castY X7 hx hZ hown (hw _ (List.mem_of_getElem? (i := 35) rfl)) e7 (Ins.self E_b7) (g := (mkF m 72 #[.val (.ref r0), .val (.int i1), .val (.int i2), .val (.ref r3)] [(.ref b7), (.ref r0)])) rfl rfl (hb hby d1_72)
  refine own_by (B := T8.setTop (mkF m 75 #[.val (.ref r0), .val (.int i1), .val (.int i2), .val (.ref r3)] [(.ref b7), (.ref r0)])) st8 ?_
  obtain ⟨T9, h9, X9, e9, W9, st9⟩ := putF X8 hx hZ hown (host := "") (Or.inl (hw _ (List.mem_of_getElem? (i := 37) rfl))) Via.refl e8 F_payload_r0 E_r0 (Or.inr ⟨(hw _ (List.mem_of_getElem? (i := 38) rfl)), rfl, hnm⟩) (hw _ (List.mem_of_getElem? (i := 3) rfl)) (ty := (.array .byte)) (by decide) rfl rfl (g := (mkF m 75 #[.val (.ref r0), .val (.int i1), .val (.int i2), .val (.ref r3)] [(.ref b7), (.ref r0)])) rfl rfl (hb hby d1_75)
  have E_r0 := E_r0.wr W9
  have F_type_r0 := F_type_r0.other W9 (Or.inr (slot_ne (Or.inr (hw _ (List.mem_of_getElem? (i := 25) rfl))) (Or.inr (hw _ (List.mem_of_getElem? (i := 38) rfl))) (by decide) (t := .int) (t' := (.array .byte)) (by decide) (by decide)))
  have F_sequence_r0 := F_sequence_r0.other W9 (Or.inr (slot_ne (Or.inr (hw _ (List.mem_of_getElem? (i := 27) rfl))) (Or.inr (hw _ (List.mem_of_getElem? (i := 38) rfl))) (by decide) (t := .int) (t' := (.array .byte)) (by decide) (by decide)))
  have F_payload_r0 := F_payload_r0.same W9
  have E_r3 := E_r3.wr W9
  have V_r3 := V_r3.other W9 (Ne.symm ne_r0_r3)
  have E_b7 := E_b7.wr W9
  have Zs : n0 ≤ h9.size := by rw [W9.size]; exact Zs
  have Zk := Nat.le_trans Zk (Nat.le_of_eq W9.size.symm)
  have Kp := Kp.wr W9 (Or.inl (List.mem_of_getElem? (i := 0) rfl))
  have Nf := Fr.snoc X9 Nf g_r0
  refine own_by (B := T9.setTop (mkF m 78 #[.val (.ref r0), .val (.int i1), .val (.int i2), .val (.ref r3)] [])) st9 ?_
  exact own_endW X9 hS (by rw [e9]; exact Zk) (v := none) (fun _ => rfl) (BodyLoose.notSynchronized Bd) (Q := (Q_rmI Z r0 i1 i2 r3 f h0 n0)) (fun fs hr => X9.returnOut hx Bd.returns (hb hby d1_78) hr) (show (Q_rmI Z r0 i1 i2 r3 f h0 n0) _ T9.heap _ from (by rw [e9]; exact ⟨rfl, Nf, Kp, F_type_r0⟩)) (by decide) (by decide)
theorem own_pd1 : parseMethodDescriptor "(II[B)V" = some ⟨[.int, .int, (.array .byte)], none⟩ := by decide +kernel
theorem own_pd2 : parseMethodDescriptor "()Z" = some ⟨[], some .boolean⟩ := by decide +kernel
theorem own_pd3 : parseMethodDescriptor "()I" = some ⟨[], some .int⟩ := by decide +kernel
theorem own_pn2 : plainName "com/example/palaver/palaver/protocol/FlapFrameHasKnownTypePinLaw" = true := by first | (simp [plainName, overriddenIn]; done) | decide +kernel
theorem ef_rm0 (m : MethodId) (x0 : Int32) (x1 : Int32) (x2 : Int32) : entryFrame m #[(.int x0), (.int x1), (.int x2)] maxLocals = mkF m 0 #[.val (.int x0), .val (.int x1), .val (.int x2), .unset, .unset, .unset, .unset, .unset] [] := by first | (simp [entryFrame, mkF, argsToLocals, Value.category, maxLocals]; done) | rfl
def Q_rm0 (Z : State) (i0 : Int32) (i1 : Int32) (i2 : Int32) (h0 : Heap) (n0 : Nat) (v : Option Value) (h : Heap) (L : List Loc) : Prop := v = some (.int 1) ∧ Fr n0 L
set_option maxRecDepth 65536 in
set_option maxHeartbeats 40000000 in
theorem rm0 (l : Launch) (Z : State) (a0 : Array Value) (hw : ∀ d ∈ tables_1, d.before a0 Z = true) (ws : List Jvm.Cond) (i0 : Int32) (i1 : Int32) (i2 : Int32) (h0 : Heap) (n0 : Nat) (Z0 : n0 ≤ h0.size)  :
    MetFree l x (head1 (Jvm.Cond.code x code maxLocals ret :: ws) room_1) (fun a U => a = #[(.int i0), (.int i1), (.int i2)] ∧ Z.Warmed39 U.vm ∧ U.heap = h0) (fun _ _ _ _ _ => True) (fun _ U o U' => ∃ v L, o = .returned v ∧ Q_rm0 Z i0 i1 i2 h0 n0 v U'.heap L ∧ ReturnedEndW U o U' L room_1.cells room_1.slots) := by
  refine MetFree.of_bodySF (plainFor_of_name own_pn2) hisR ?_
  intro p e s m args below meth c s₁ Bd hml0 hP hK
  obtain ⟨rfl, hZ, hh⟩ := hP
  have hx := Bd.exec
  have hby := Bd.bytes
  have hml : c.maxLocals = 8 := hml0
  have hown : s.vm.findClass "com/example/palaver/palaver/protocol/FlapFrameHasKnownTypePinLaw" = some m.cls := findClass_of_methodNamed Bd.named
  have hnm := (name_of_methodNamed Bd.named Bd.method).1
  have X0 : Stand p l e room_1 s m #[(.int i0), (.int i1), (.int i2)] below meth c s₁ [] 0 0 := Stand.of_body Bd
  have e0 : s₁.heap = h0 := by rw [← hh, Bd.state]; rfl
  show own_Go p e below (s₁.setTop (entryFrame m #[(.int i0), (.int i1), (.int i2)] maxLocals)) (fun t o => ∃ v L, o = .returned v ∧ Q_rm0 Z i0 i1 i2 h0 n0 v t.heap L ∧ ReturnedEndW s o t L room_1.cells room_1.slots)
  have X0 : Stand p l e room_1 (s.setVm s.vm) m #[(.int i0), (.int i1), (.int i2)] below meth c s₁ [] 0 0 := X0
  have hZ : Z.Warmed39 (s.setVm s.vm).vm := hZ
  have hown : (s.setVm s.vm).vm.findClass "com/example/palaver/palaver/protocol/FlapFrameHasKnownTypePinLaw" = some m.cls := hown
  have hS : s.Since s.vm h0.size := (State.WarmedH.refl s).since _
  have Zk : h0.size ≤ h0.size := Nat.le_refl _
  refine own_by (B := s₁.setTop (mkF m 0 #[.val (.int i0), .val (.int i1), .val (.int i2), .unset, .unset, .unset, .unset, .unset] [])) (fun t k => castTop (ef_rm0 m i0 i1 i2) k) ?_
  have Nf := Fr.nil n0
  have Zs := Z0
  refine own_by (B := s₁.setTop (mkF m 1 #[.val (.int i0), .val (.int i1), .val (.int i2), .unset, .unset, .unset, .unset, .unset] [(.int i0)])) (fun t k => XS.iloadN X0.here hx rfl (hb hby at_0) rfl k) ?_
  refine own_by (B := s₁.setTop (mkF m 4 #[.val (.int i0), .val (.int i1), .val (.int i2), .unset, .unset, .unset, .unset, .unset] [(.int (255 : Int32)), (.int i0)])) (fun t k => XS.sipush X0.here hx rfl (hb hby at_1) k) ?_
  refine own_by (B := s₁.setTop (mkF m 5 #[.val (.int i0), .val (.int i1), .val (.int i2), .unset, .unset, .unset, .unset, .unset] [(.int (i0 &&& (255 : Int32)))])) (fun t k => XS.iand X0.here hx rfl (hb hby at_4) rfl k) ?_
  refine own_by (B := s₁.setTop (mkF m 6 #[.val (.int i0), .val (.int i1), .val (.int i2), .val (.int (i0 &&& (255 : Int32))), .unset, .unset, .unset, .unset] [])) (fun t k => XS.istoreN X0.here hx rfl (hb hby at_5) rfl (l' := #[.val (.int i0), .val (.int i1), .val (.int i2), .val (.int (i0 &&& (255 : Int32))), .unset, .unset, .unset, .unset]) rfl k) ?_
  refine own_by (B := s₁.setTop (mkF m 7 #[.val (.int i0), .val (.int i1), .val (.int i2), .val (.int (i0 &&& (255 : Int32))), .unset, .unset, .unset, .unset] [(.int i1)])) (fun t k => XS.iloadN X0.here hx rfl (hb hby at_6) rfl k) ?_
  refine own_by (B := s₁.setTop (mkF m 9 #[.val (.int i0), .val (.int i1), .val (.int i2), .val (.int (i0 &&& (255 : Int32))), .unset, .unset, .unset, .unset] [(.int (65535 : Int32)), (.int i1)])) (fun t k => X0.ldcInt hx hown (mvT hZ (hw _ (List.mem_of_getElem? (i := 0) rfl))) (g := (mkF m 7 #[.val (.int i0), .val (.int i1), .val (.int i2), .val (.int (i0 &&& (255 : Int32))), .unset, .unset, .unset, .unset] [(.int i1)])) rfl (hb hby at_7) _ k) ?_
  refine own_by (B := s₁.setTop (mkF m 10 #[.val (.int i0), .val (.int i1), .val (.int i2), .val (.int (i0 &&& (255 : Int32))), .unset, .unset, .unset, .unset] [(.int (i1 &&& (65535 : Int32)))])) (fun t k => XS.iand X0.here hx rfl (hb hby at_9) rfl k) ?_
  refine own_by (B := s₁.setTop (mkF m 12 #[.val (.int i0), .val (.int i1), .val (.int i2), .val (.int (i0 &&& (255 : Int32))), .val (.int (i1 &&& (65535 : Int32))), .unset, .unset, .unset] [])) (fun t k => XS.istore X0.here hx rfl (hb hby at_10) rfl (l' := #[.val (.int i0), .val (.int i1), .val (.int i2), .val (.int (i0 &&& (255 : Int32))), .val (.int (i1 &&& (65535 : Int32))), .unset, .unset, .unset]) rfl k) ?_
  refine own_by (B := s₁.setTop (mkF m 13 #[.val (.int i0), .val (.int i1), .val (.int i2), .val (.int (i0 &&& (255 : Int32))), .val (.int (i1 &&& (65535 : Int32))), .unset, .unset, .unset] [(.int (1 : Int32))])) (fun t k => XS.iconst X0.here hx rfl (hb hby at_12) k) ?_
  obtain ⟨T1, h1, k1, X1, e1, E1, A1, Ae1, st1⟩ := own_newPE X0 hx hZ (hw _ (List.mem_of_getElem? (i := 1) rfl)) e0 (g := (mkF m 13 #[.val (.int i0), .val (.int i1), .val (.int i2), .val (.int (i0 &&& (255 : Int32))), .val (.int (i1 &&& (65535 : Int32))), .unset, .unset, .unset] [(.int (1 : Int32))])) rfl (hb hby at_13) rfl (by decide) (cap := 1) (by decide) (by decide) (by decide) (by decide) (ad := "[B") (by decide)
  obtain ⟨b1, gq1⟩ : ∃ z, z = h0.size := ⟨_, rfl⟩
  rw [← gq1] at A1 Ae1 st1
  have g_b1 : n0 ≤ b1 := Nat.le_trans Zs (Nat.le_of_eq gq1.symm)
  have Zs := Nat.le_trans Zs E1.1
  have Zk := Nat.le_trans Zk E1.1
  have V_b1 := own_Arf.new A1 (by decide)
  have E_b1 := Ae1
  refine own_by (B := T1.setTop (mkF m 15 #[.val (.int i0), .val (.int i1), .val (.int i2), .val (.int (i0 &&& (255 : Int32))), .val (.int (i1 &&& (65535 : Int32))), .unset, .unset, .unset] [(.ref b1)])) st1 ?_
  refine own_by (B := T1.setTop (mkF m 17 #[.val (.int i0), .val (.int i1), .val (.int i2), .val (.int (i0 &&& (255 : Int32))), .val (.int (i1 &&& (65535 : Int32))), .val (.ref b1), .unset, .unset] [])) (fun t k => XS.astore X1.here hx rfl (hb hby at_15) rfl rfl (l' := #[.val (.int i0), .val (.int i1), .val (.int i2), .val (.int (i0 &&& (255 : Int32))), .val (.int (i1 &&& (65535 : Int32))), .val (.ref b1), .unset, .unset]) rfl k) ?_
  refine own_by (B := T1.setTop (mkF m 19 #[.val (.int i0), .val (.int i1), .val (.int i2), .val (.int (i0 &&& (255 : Int32))), .val (.int (i1 &&& (65535 : Int32))), .val (.ref b1), .unset, .unset] [(.ref b1)])) (fun t k => XS.aload X1.here hx rfl (hb hby at_17) rfl rfl k) ?_
  refine own_by (B := T1.setTop (mkF m 20 #[.val (.int i0), .val (.int i1), .val (.int i2), .val (.int (i0 &&& (255 : Int32))), .val (.int (i1 &&& (65535 : Int32))), .val (.ref b1), .unset, .unset] [(.int (0 : Int32)), (.ref b1)])) (fun t k => XS.iconst X1.here hx rfl (hb hby at_19) k) ?_
  refine own_by (B := T1.setTop (mkF m 21 #[.val (.int i0), .val (.int i1), .val (.int i2), .val (.int (i0 &&& (255 : Int32))), .val (.int (i1 &&& (65535 : Int32))), .val (.ref b1), .unset, .unset] [(.int i2), (.int (0 : Int32)), (.ref b1)])) (fun t k => XS.iloadN X1.here hx rfl (hb hby at_20) rfl k) ?_
  refine own_by (B := T1.setTop (mkF m 22 #[.val (.int i0), .val (.int i1), .val (.int i2), .val (.int (i0 &&& (255 : Int32))), .val (.int (i1 &&& (65535 : Int32))), .val (.ref b1), .unset, .unset] [(.int (i2.toInt8.toInt32)), (.int (0 : Int32)), (.ref b1)])) (fun t k => XS.i2b X1.here hx rfl (hb hby at_21) rfl k) ?_
  obtain ⟨cl2, Ar2, hin2, -⟩ := V_b1.at (j := (0 : Int32)) ⟨by decide, by decide⟩
  obtain ⟨T2, h2, X2, e2, W2, st2⟩ := stB X1 hx hZ e1 Ar2 (j := (0 : Int32)) hin2 (g := (mkF m 22 #[.val (.int i0), .val (.int i1), .val (.int i2), .val (.int (i0 &&& (255 : Int32))), .val (.int (i1 &&& (65535 : Int32))), .val (.ref b1), .unset, .unset] [(.int (i2.toInt8.toInt32)), (.int (0 : Int32)), (.ref b1)])) rfl rfl (hb hby at_22)
  have V_b1 := V_b1.set W2
  have E_b1 := E_b1.wr W2
  have Zs : n0 ≤ h2.size := by rw [W2.size]; exact Zs
  have Zk := Nat.le_trans Zk (Nat.le_of_eq W2.size.symm)
  have Nf := Fr.snoc X2 Nf g_b1
  refine own_by (B := T2.setTop (mkF m 23 #[.val (.int i0), .val (.int i1), .val (.int i2), .val (.int (i0 &&& (255 : Int32))), .val (.int (i1 &&& (65535 : Int32))), .val (.ref b1), .unset, .unset] [])) st2 ?_
  obtain ⟨T3, h3, X3, e3, E3, A3, D3, -, st3⟩ := newO X2 hx hZ hown (hw _ (List.mem_of_getElem? (i := 2) rfl)) (hw _ (List.mem_of_getElem? (i := 3) rfl)) (hw _ (List.mem_of_getElem? (i := 4) rfl)) e2 (g := (mkF m 23 #[.val (.int i0), .val (.int i1), .val (.int i2), .val (.int (i0 &&& (255 : Int32))), .val (.int (i1 &&& (65535 : Int32))), .val (.ref b1), .unset, .unset] [])) rfl (hb hby at_23) (by decide) (by decide)
  obtain ⟨b3, gq3⟩ : ∃ z, z = h2.size := ⟨_, rfl⟩
  rw [← gq3] at A3 D3 st3
  have ne_b1_b3 : b1 ≠ b3 := Nat.ne_of_lt (Nat.lt_of_lt_of_le V_b1.lt (Nat.le_of_eq gq3.symm))
  have g_b3 : n0 ≤ b3 := Nat.le_trans Zs (Nat.le_of_eq gq3.symm)
  have V_b1 := V_b1.ext E3
  have E_b1 := E_b1.ext E3
  have Zs := Nat.le_trans Zs E3.1
  have Zk := Nat.le_trans Zk E3.1
  have E_b3 := A3
  have F_type_b3 : Fld Z h3 b3 "com/example/palaver/palaver/protocol/FlapFrame" "type" "I" (.int (0 : Int32)) := D3 (Or.inr (hw _ (List.mem_of_getElem? (i := 25) rfl))) (ty := .int) (by decide)
  have F_sequence_b3 : Fld Z h3 b3 "com/example/palaver/palaver/protocol/FlapFrame" "sequence" "I" (.int (0 : Int32)) := D3 (Or.inr (hw _ (List.mem_of_getElem? (i := 27) rfl))) (ty := .int) (by decide)
  have F_payload_b3 : Fld Z h3 b3 "com/example/palaver/palaver/protocol/FlapFrame" "payload" "[B" .null := D3 (Or.inr (hw _ (List.mem_of_getElem? (i := 38) rfl))) (ty := (.array .byte)) (by decide)
  refine own_by (B := T3.setTop (mkF m 26 #[.val (.int i0), .val (.int i1), .val (.int i2), .val (.int (i0 &&& (255 : Int32))), .val (.int (i1 &&& (65535 : Int32))), .val (.ref b1), .unset, .unset] [(.ref b3)])) st3 ?_
  refine own_by (B := T3.setTop (mkF m 27 #[.val (.int i0), .val (.int i1), .val (.int i2), .val (.int (i0 &&& (255 : Int32))), .val (.int (i1 &&& (65535 : Int32))), .val (.ref b1), .unset, .unset] [(.ref b3), (.ref b3)])) (fun t k => XS.dup X3.here hx rfl (hb hby at_26) rfl rfl k) ?_
  refine own_by (B := T3.setTop (mkF m 28 #[.val (.int i0), .val (.int i1), .val (.int i2), .val (.int (i0 &&& (255 : Int32))), .val (.int (i1 &&& (65535 : Int32))), .val (.ref b1), .unset, .unset] [(.int (i0 &&& (255 : Int32))), (.ref b3), (.ref b3)])) (fun t k => XS.iloadN X3.here hx rfl (hb hby at_27) rfl k) ?_
  refine own_by (B := T3.setTop (mkF m 30 #[.val (.int i0), .val (.int i1), .val (.int i2), .val (.int (i0 &&& (255 : Int32))), .val (.int (i1 &&& (65535 : Int32))), .val (.ref b1), .unset, .unset] [(.int (i1 &&& (65535 : Int32))), (.int (i0 &&& (255 : Int32))), (.ref b3), (.ref b3)])) (fun t k => XS.iload X3.here hx rfl (hb hby at_28) rfl k) ?_
  refine own_by (B := T3.setTop (mkF m 32 #[.val (.int i0), .val (.int i1), .val (.int i2), .val (.int (i0 &&& (255 : Int32))), .val (.int (i1 &&& (65535 : Int32))), .val (.ref b1), .unset, .unset] [(.ref b1), (.int (i1 &&& (65535 : Int32))), (.int (i0 &&& (255 : Int32))), (.ref b3), (.ref b3)])) (fun t k => XS.aload X3.here hx rfl (hb hby at_30) rfl rfl k) ?_
  have hfb : ∀ i, fits .byte ((fun i => if i = (0 : Int32).toNatClampNeg then Value.int (nar .byte (i2.toInt8.toInt32)) else defaultValue .byte) i) = true := fun i => by
    by_cases q : i = (0 : Int32).toNatClampNeg
    · simp only [if_pos q]; exact fits_nar_byte _
    · simp only [if_neg q]; rfl
  obtain ⟨_, _, ⟨T4, L4, k4, n4⟩, -, X4, hSc4, hgr4, ⟨Lc4, hQ4, l4, y4, z4⟩, st4⟩ := X3.specialBackS hx (y := (⟨"com/example/palaver/palaver/protocol/FlapFrame", "<init>", "(II[B)V"⟩ : MethodName)) rfl hown (mvT hZ (hw _ (List.mem_of_getElem? (i := 5) rfl))) (mvT hZ (hw _ (List.mem_of_getElem? (i := 6) rfl))) (mvT hZ (hw _ (List.mem_of_getElem? (i := 7) rfl))) (by decide) (backOfS (W := 1) (rmI l Z a0 hw [] b3 (i0 &&& (255 : Int32)) (i1 &&& (65535 : Int32)) b1 _ h3 n0 Zs E_b3 F_type_b3 F_sequence_b3 F_payload_b3 g_b3 (Ne.symm ne_b1_b3) E_b1 V_b1 hfb (own_range i0).1 (own_range i0).2 (own_range16 i1).1 (own_range16 i1).2) hZ (hw _ (List.mem_of_getElem? (i := 7) rfl)) (hw _ (List.mem_of_getElem? (i := 4) rfl)) (by decide) (by decide)) (g := (mkF m 32 #[.val (.int i0), .val (.int i1), .val (.int i2), .val (.int (i0 &&& (255 : Int32))), .val (.int (i1 &&& (65535 : Int32))), .val (.ref b1), .unset, .unset] [(.ref b1), (.int (i1 &&& (65535 : Int32))), (.int (i0 &&& (255 : Int32))), (.ref b3), (.ref b3)])) rfl (by rw [hml]; rfl) (Steps.refl _) (a := b3) (argsL := [(.int (i0 &&& (255 : Int32))), (.int (i1 &&& (65535 : Int32))), (.ref b1)]) (rest := [(.ref b3)]) (lenOf own_pd1 rfl) rfl (by show 2 * 0 + _ ≤ _; exact Nat.le_of_eq rfl) (hb hby at_32) (fun _ _ => ⟨rfl, e3, (by decide : 2 + 3 ≤ _), (by decide : 4 + 65 ≤ _)⟩)
  dsimp only [Pt.U, Pt.locs, Pt.cells, Pt.slots] at X4 l4 y4 z4 st4 hQ4 hSc4 hgr4
  subst l4 y4 z4
  obtain ⟨X4, hS, hZ, hown⟩ := rebS hS (by rw [e3]; exact Zk) X4 hSc4 hgr4 hZ hown
  have Zk : T4.heap.size ≤ T4.heap.size := Nat.le_refl _
  obtain ⟨rfl, Nq4, Kc4, Fc4⟩ := hQ4
  have Nf := Fr.app Nf Nq4
  have V_b1 := V_b1.keep Kc4 (ninS ne_b1_b3 nin0)
  have E_b1 := E_b1.keep Kc4
  have E_b3 := E_b3.keep Kc4
  have Zs := Nat.le_trans Zs Kc4.1
  have F_type_b3 := Fc4
  refine own_by (B := T4.setTop (mkF m 35 #[.val (.int i0), .val (.int i1), .val (.int i2), .val (.int (i0 &&& (255 : Int32))), .val (.int (i1 &&& (65535 : Int32))), .val (.ref b1), .unset, .unset] [(.ref b3)])) (fun t k => st4.trans k) ?_
  refine own_by (B := T4.setTop (mkF m 37 #[.val (.int i0), .val (.int i1), .val (.int i2), .val (.int (i0 &&& (255 : Int32))), .val (.int (i1 &&& (65535 : Int32))), .val (.ref b1), .val (.ref b3), .unset] [])) (fun t k => XS.astore X4.here hx rfl (hb hby at_35) rfl rfl (l' := #[.val (.int i0), .val (.int i1), .val (.int i2), .val (.int (i0 &&& (255 : Int32))), .val (.int (i1 &&& (65535 : Int32))), .val (.ref b1), .val (.ref b3), .unset]) rfl k) ?_
  refine own_by (B := T4.setTop (mkF m 38 #[.val (.int i0), .val (.int i1), .val (.int i2), .val (.int (i0 &&& (255 : Int32))), .val (.int (i1 &&& (65535 : Int32))), .val (.ref b1), .val (.ref b3), .unset] [(.int (i0 &&& (255 : Int32)))])) (fun t k => XS.iloadN X4.here hx rfl (hb hby at_37) rfl k) ?_
  refine own_by (B := T4.setTop (mkF m 39 #[.val (.int i0), .val (.int i1), .val (.int i2), .val (.int (i0 &&& (255 : Int32))), .val (.int (i1 &&& (65535 : Int32))), .val (.ref b1), .val (.ref b3), .unset] [(.int (1 : Int32)), (.int (i0 &&& (255 : Int32)))])) (fun t k => XS.iconst X4.here hx rfl (hb hby at_38) k) ?_
  by_cases hc39 : (i0 &&& (255 : Int32)) = (1 : Int32)
  · refine own_by (B := T4.setTop (mkF m 62 #[.val (.int i0), .val (.int i1), .val (.int i2), .val (.int (i0 &&& (255 : Int32))), .val (.int (i1 &&& (65535 : Int32))), .val (.ref b1), .val (.ref b3), .unset] [])) (fun t k => XS.icmpYes X4.here hx rfl (pc0 := 39) (pc' := 62) rfl (hb hby at_39) rfl (teq hc39).1 (by decide) (by decide) k) ?_
    refine own_by (B := T4.setTop (mkF m 63 #[.val (.int i0), .val (.int i1), .val (.int i2), .val (.int (i0 &&& (255 : Int32))), .val (.int (i1 &&& (65535 : Int32))), .val (.ref b1), .val (.ref b3), .unset] [(.int (1 : Int32))])) (fun t k => XS.iconst X4.here hx rfl (hb hby at_62) k) ?_
    refine own_by (B := T4.setTop (mkF m 67 #[.val (.int i0), .val (.int i1), .val (.int i2), .val (.int (i0 &&& (255 : Int32))), .val (.int (i1 &&& (65535 : Int32))), .val (.ref b1), .val (.ref b3), .unset] [(.int (1 : Int32))])) (fun t k => XS.goto X4.here hx rfl (pc0 := 63) (pc' := 67) rfl (hb hby at_63) (by decide) (by decide) k) ?_
    refine own_by (B := T4.setTop (mkF m 69 #[.val (.int i0), .val (.int i1), .val (.int i2), .val (.int (i0 &&& (255 : Int32))), .val (.int (i1 &&& (65535 : Int32))), .val (.ref b1), .val (.ref b3), .val (.int (1 : Int32))] [])) (fun t k => XS.istore X4.here hx rfl (hb hby at_67) rfl (l' := #[.val (.int i0), .val (.int i1), .val (.int i2), .val (.int (i0 &&& (255 : Int32))), .val (.int (i1 &&& (65535 : Int32))), .val (.ref b1), .val (.ref b3), .val (.int (1 : Int32))]) rfl k) ?_
    refine own_by (B := T4.setTop (mkF m 71 #[.val (.int i0), .val (.int i1), .val (.int i2), .val (.int (i0 &&& (255 : Int32))), .val (.int (i1 &&& (65535 : Int32))), .val (.ref b1), .val (.ref b3), .val (.int (1 : Int32))] [(.ref b3)])) (fun t k => XS.aload X4.here hx rfl (hb hby at_69) rfl rfl k) ?_
    obtain ⟨cq5, kq5, q5a, q5b, q5c⟩ := isOf hZ rfl E_b3
    obtain ⟨_, _, ⟨T5, L5, k5, n5⟩, -, X5, ⟨Lc5, hQ5, l5, y5, z5⟩, st5⟩ := X4.virtualBack hx (y := (⟨"com/example/palaver/palaver/protocol/FlapFrame", "hasKnownType", "()Z"⟩ : MethodName)) (z := (⟨"com/example/palaver/palaver/protocol/FlapFrame", "hasKnownType", "()Z"⟩ : MethodName)) hown (mvT hZ (hw _ (List.mem_of_getElem? (i := 39) rfl))) (mvT hZ (hw _ (List.mem_of_getElem? (i := 40) rfl))) (notFace_of_selects (args := #[]) (mvT hZ (hw _ (List.mem_of_getElem? (i := 42) rfl)))) (mvT hZ (hw _ (List.mem_of_getElem? (i := 42) rfl))) (mvT hZ (hw _ (List.mem_of_getElem? (i := 41) rfl))) (by decide) (backOf (W := 0) (rmK l Z a0 hw [] b3 (i0 &&& (255 : Int32)) T4.heap n0 Zs F_type_b3) hZ (hw _ (List.mem_of_getElem? (i := 43) rfl)) (hw _ (List.mem_of_getElem? (i := 4) rfl)) (by decide) (by decide)) q5a q5c (g := (mkF m 71 #[.val (.int i0), .val (.int i1), .val (.int i2), .val (.int (i0 &&& (255 : Int32))), .val (.int (i1 &&& (65535 : Int32))), .val (.ref b1), .val (.ref b3), .val (.int (1 : Int32))] [(.ref b3)])) rfl (by rw [hml]; rfl) (Steps.refl _) (argsL := []) (rest := []) (lenOf own_pd2 rfl) rfl (by show 2 * 0 + _ ≤ _; exact Nat.le_of_eq rfl) (hb hby at_71) (fun _ _ => ⟨rfl, rfl, (by decide : 5 + 0 ≤ _), (by decide : 69 + 0 ≤ _)⟩)
    dsimp only [Pt.U, Pt.locs, Pt.cells, Pt.slots] at X5 l5 y5 z5 st5 hQ5
    subst l5 y5 z5
    obtain ⟨rfl, Nq5, hp5⟩ := hQ5
    have Nf := Fr.app Nf Nq5
    have ec5 : T5.heap = T4.heap := hp5
    refine own_by (B := T5.setTop (mkF m 74 #[.val (.int i0), .val (.int i1), .val (.int i2), .val (.int (i0 &&& (255 : Int32))), .val (.int (i1 &&& (65535 : Int32))), .val (.ref b1), .val (.ref b3), .val (.int (1 : Int32))] [(.int (own_known (i0 &&& (255 : Int32))))])) (fun t k => st5.trans k) ?_
    refine own_by (B := T5.setTop (mkF m 76 #[.val (.int i0), .val (.int i1), .val (.int i2), .val (.int (i0 &&& (255 : Int32))), .val (.int (i1 &&& (65535 : Int32))), .val (.ref b1), .val (.ref b3), .val (.int (1 : Int32))] [(.int (1 : Int32)), (.int (own_known (i0 &&& (255 : Int32))))])) (fun t k => XS.iload X5.here hx rfl (hb hby at_74) rfl k) ?_
    have hv : own_known (i0 &&& (255 : Int32)) = 1 := by rw [hc39]; rfl
    refine own_by (B := T5.setTop (mkF m 79 #[.val (.int i0), .val (.int i1), .val (.int i2), .val (.int (i0 &&& (255 : Int32))), .val (.int (i1 &&& (65535 : Int32))), .val (.ref b1), .val (.ref b3), .val (.int (1 : Int32))] [])) (fun t k => XS.icmpNo X5.here hx rfl (hb hby at_76) rfl (teq hv).2 k) ?_
    refine own_by (B := T5.setTop (mkF m 81 #[.val (.int i0), .val (.int i1), .val (.int i2), .val (.int (i0 &&& (255 : Int32))), .val (.int (i1 &&& (65535 : Int32))), .val (.ref b1), .val (.ref b3), .val (.int (1 : Int32))] [(.ref b3)])) (fun t k => XS.aload X5.here hx rfl (hb hby at_79) rfl rfl k) ?_
    obtain ⟨cq6, kq6, q6a, q6b, q6c⟩ := isOf hZ ec5 E_b3
    obtain ⟨_, _, ⟨T6, L6, k6, n6⟩, -, X6, ⟨Lc6, hQ6, l6, y6, z6⟩, st6⟩ := X5.virtualBack hx (y := (⟨"com/example/palaver/palaver/protocol/FlapFrame", "type", "()I"⟩ : MethodName)) (z := (⟨"com/example/palaver/palaver/protocol/FlapFrame", "type", "()I"⟩ : MethodName)) hown (mvT hZ (hw _ (List.mem_of_getElem? (i := 44) rfl))) (mvT hZ (hw _ (List.mem_of_getElem? (i := 45) rfl))) (notFace_of_selects (args := #[]) (mvT hZ (hw _ (List.mem_of_getElem? (i := 47) rfl)))) (mvT hZ (hw _ (List.mem_of_getElem? (i := 47) rfl))) (mvT hZ (hw _ (List.mem_of_getElem? (i := 46) rfl))) (by decide) (backOf (W := 0) (rmT l Z a0 hw [] b3 (i0 &&& (255 : Int32)) T4.heap n0 Zs F_type_b3) hZ (hw _ (List.mem_of_getElem? (i := 48) rfl)) (hw _ (List.mem_of_getElem? (i := 4) rfl)) (by decide) (by decide)) q6a q6c (g := (mkF m 81 #[.val (.int i0), .val (.int i1), .val (.int i2), .val (.int (i0 &&& (255 : Int32))), .val (.int (i1 &&& (65535 : Int32))), .val (.ref b1), .val (.ref b3), .val (.int (1 : Int32))] [(.ref b3)])) rfl (by rw [hml]; rfl) (Steps.refl _) (argsL := []) (rest := []) (lenOf own_pd3 rfl) rfl (by show 2 * 0 + _ ≤ _; exact Nat.le_of_eq rfl) (hb hby at_81) (fun _ _ => ⟨rfl, ec5, (by decide : 5 + 0 ≤ _), (by decide : 69 + 0 ≤ _)⟩)
    dsimp only [Pt.U, Pt.locs, Pt.cells, Pt.slots] at X6 l6 y6 z6 st6 hQ6
    subst l6 y6 z6
    obtain ⟨rfl, Nq6, hp6⟩ := hQ6
    have Nf := Fr.app Nf Nq6
    have ec6 : T6.heap = T4.heap := hp6
    refine own_by (B := T6.setTop (mkF m 84 #[.val (.int i0), .val (.int i1), .val (.int i2), .val (.int (i0 &&& (255 : Int32))), .val (.int (i1 &&& (65535 : Int32))), .val (.ref b1), .val (.ref b3), .val (.int (1 : Int32))] [(.int (i0 &&& (255 : Int32)))])) (fun t k => st6.trans k) ?_
    refine own_by (B := T6.setTop (mkF m 85 #[.val (.int i0), .val (.int i1), .val (.int i2), .val (.int (i0 &&& (255 : Int32))), .val (.int (i1 &&& (65535 : Int32))), .val (.ref b1), .val (.ref b3), .val (.int (1 : Int32))] [(.int (i0 &&& (255 : Int32))), (.int (i0 &&& (255 : Int32)))])) (fun t k => XS.iloadN X6.here hx rfl (hb hby at_84) rfl k) ?_
    refine own_by (B := T6.setTop (mkF m 88 #[.val (.int i0), .val (.int i1), .val (.int i2), .val (.int (i0 &&& (255 : Int32))), .val (.int (i1 &&& (65535 : Int32))), .val (.ref b1), .val (.ref b3), .val (.int (1 : Int32))] [])) (fun t k => XS.icmpNo X6.here hx rfl (hb hby at_85) rfl (teq rfl).2 k) ?_
    refine own_by (B := T6.setTop (mkF m 89 #[.val (.int i0), .val (.int i1), .val (.int i2), .val (.int (i0 &&& (255 : Int32))), .val (.int (i1 &&& (65535 : Int32))), .val (.ref b1), .val (.ref b3), .val (.int (1 : Int32))] [(.int (1 : Int32))])) (fun t k => XS.iconst X6.here hx rfl (hb hby at_88) k) ?_
    refine own_by (B := T6.setTop (mkF m 93 #[.val (.int i0), .val (.int i1), .val (.int i2), .val (.int (i0 &&& (255 : Int32))), .val (.int (i1 &&& (65535 : Int32))), .val (.ref b1), .val (.ref b3), .val (.int (1 : Int32))] [(.int (1 : Int32))])) (fun t k => XS.goto X6.here hx rfl (pc0 := 89) (pc' := 93) rfl (hb hby at_89) (by decide) (by decide) k) ?_
    exact own_endW X6 hS (by rw [ec6]; exact Zk) (v := some (.int (1 : Int32))) (fun h => by rw [Bd.returns] at h; cases h) (BodyLoose.notSynchronized Bd) (Q := (Q_rm0 Z i0 i1 i2 h0 n0)) (fun fs hr => retN X6 hx (t := .boolean) Bd.returns (by simp) (hb hby at_93) hr) (show (Q_rm0 Z i0 i1 i2 h0 n0) _ T6.heap _ from (by rw [ec6]; exact ⟨rfl, Nf⟩)) (by decide) (by decide)
  · refine own_by (B := T4.setTop (mkF m 42 #[.val (.int i0), .val (.int i1), .val (.int i2), .val (.int (i0 &&& (255 : Int32))), .val (.int (i1 &&& (65535 : Int32))), .val (.ref b1), .val (.ref b3), .unset] [])) (fun t k => XS.icmpNo X4.here hx rfl (hb hby at_39) rfl (feq hc39).1 k) ?_
    refine own_by (B := T4.setTop (mkF m 43 #[.val (.int i0), .val (.int i1), .val (.int i2), .val (.int (i0 &&& (255 : Int32))), .val (.int (i1 &&& (65535 : Int32))), .val (.ref b1), .val (.ref b3), .unset] [(.int (i0 &&& (255 : Int32)))])) (fun t k => XS.iloadN X4.here hx rfl (hb hby at_42) rfl k) ?_
    refine own_by (B := T4.setTop (mkF m 44 #[.val (.int i0), .val (.int i1), .val (.int i2), .val (.int (i0 &&& (255 : Int32))), .val (.int (i1 &&& (65535 : Int32))), .val (.ref b1), .val (.ref b3), .unset] [(.int (2 : Int32)), (.int (i0 &&& (255 : Int32)))])) (fun t k => XS.iconst X4.here hx rfl (hb hby at_43) k) ?_
    by_cases hc44 : (i0 &&& (255 : Int32)) = (2 : Int32)
    · refine own_by (B := T4.setTop (mkF m 62 #[.val (.int i0), .val (.int i1), .val (.int i2), .val (.int (i0 &&& (255 : Int32))), .val (.int (i1 &&& (65535 : Int32))), .val (.ref b1), .val (.ref b3), .unset] [])) (fun t k => XS.icmpYes X4.here hx rfl (pc0 := 44) (pc' := 62) rfl (hb hby at_44) rfl (teq hc44).1 (by decide) (by decide) k) ?_
      refine own_by (B := T4.setTop (mkF m 63 #[.val (.int i0), .val (.int i1), .val (.int i2), .val (.int (i0 &&& (255 : Int32))), .val (.int (i1 &&& (65535 : Int32))), .val (.ref b1), .val (.ref b3), .unset] [(.int (1 : Int32))])) (fun t k => XS.iconst X4.here hx rfl (hb hby at_62) k) ?_
      refine own_by (B := T4.setTop (mkF m 67 #[.val (.int i0), .val (.int i1), .val (.int i2), .val (.int (i0 &&& (255 : Int32))), .val (.int (i1 &&& (65535 : Int32))), .val (.ref b1), .val (.ref b3), .unset] [(.int (1 : Int32))])) (fun t k => XS.goto X4.here hx rfl (pc0 := 63) (pc' := 67) rfl (hb hby at_63) (by decide) (by decide) k) ?_
      refine own_by (B := T4.setTop (mkF m 69 #[.val (.int i0), .val (.int i1), .val (.int i2), .val (.int (i0 &&& (255 : Int32))), .val (.int (i1 &&& (65535 : Int32))), .val (.ref b1), .val (.ref b3), .val (.int (1 : Int32))] [])) (fun t k => XS.istore X4.here hx rfl (hb hby at_67) rfl (l' := #[.val (.int i0), .val (.int i1), .val (.int i2), .val (.int (i0 &&& (255 : Int32))), .val (.int (i1 &&& (65535 : Int32))), .val (.ref b1), .val (.ref b3), .val (.int (1 : Int32))]) rfl k) ?_
      refine own_by (B := T4.setTop (mkF m 71 #[.val (.int i0), .val (.int i1), .val (.int i2), .val (.int (i0 &&& (255 : Int32))), .val (.int (i1 &&& (65535 : Int32))), .val (.ref b1), .val (.ref b3), .val (.int (1 : Int32))] [(.ref b3)])) (fun t k => XS.aload X4.here hx rfl (hb hby at_69) rfl rfl k) ?_
      obtain ⟨cq7, kq7, q7a, q7b, q7c⟩ := isOf hZ rfl E_b3
      obtain ⟨_, _, ⟨T7, L7, k7, n7⟩, -, X7, ⟨Lc7, hQ7, l7, y7, z7⟩, st7⟩ := X4.virtualBack hx (y := (⟨"com/example/palaver/palaver/protocol/FlapFrame", "hasKnownType", "()Z"⟩ : MethodName)) (z := (⟨"com/example/palaver/palaver/protocol/FlapFrame", "hasKnownType", "()Z"⟩ : MethodName)) hown (mvT hZ (hw _ (List.mem_of_getElem? (i := 39) rfl))) (mvT hZ (hw _ (List.mem_of_getElem? (i := 40) rfl))) (notFace_of_selects (args := #[]) (mvT hZ (hw _ (List.mem_of_getElem? (i := 42) rfl)))) (mvT hZ (hw _ (List.mem_of_getElem? (i := 42) rfl))) (mvT hZ (hw _ (List.mem_of_getElem? (i := 41) rfl))) (by decide) (backOf (W := 0) (rmK l Z a0 hw [] b3 (i0 &&& (255 : Int32)) T4.heap n0 Zs F_type_b3) hZ (hw _ (List.mem_of_getElem? (i := 43) rfl)) (hw _ (List.mem_of_getElem? (i := 4) rfl)) (by decide) (by decide)) q7a q7c (g := (mkF m 71 #[.val (.int i0), .val (.int i1), .val (.int i2), .val (.int (i0 &&& (255 : Int32))), .val (.int (i1 &&& (65535 : Int32))), .val (.ref b1), .val (.ref b3), .val (.int (1 : Int32))] [(.ref b3)])) rfl (by rw [hml]; rfl) (Steps.refl _) (argsL := []) (rest := []) (lenOf own_pd2 rfl) rfl (by show 2 * 0 + _ ≤ _; exact Nat.le_of_eq rfl) (hb hby at_71) (fun _ _ => ⟨rfl, rfl, (by decide : 5 + 0 ≤ _), (by decide : 69 + 0 ≤ _)⟩)
      dsimp only [Pt.U, Pt.locs, Pt.cells, Pt.slots] at X7 l7 y7 z7 st7 hQ7
      subst l7 y7 z7
      obtain ⟨rfl, Nq7, hp7⟩ := hQ7
      have Nf := Fr.app Nf Nq7
      have ec7 : T7.heap = T4.heap := hp7
      refine own_by (B := T7.setTop (mkF m 74 #[.val (.int i0), .val (.int i1), .val (.int i2), .val (.int (i0 &&& (255 : Int32))), .val (.int (i1 &&& (65535 : Int32))), .val (.ref b1), .val (.ref b3), .val (.int (1 : Int32))] [(.int (own_known (i0 &&& (255 : Int32))))])) (fun t k => st7.trans k) ?_
      refine own_by (B := T7.setTop (mkF m 76 #[.val (.int i0), .val (.int i1), .val (.int i2), .val (.int (i0 &&& (255 : Int32))), .val (.int (i1 &&& (65535 : Int32))), .val (.ref b1), .val (.ref b3), .val (.int (1 : Int32))] [(.int (1 : Int32)), (.int (own_known (i0 &&& (255 : Int32))))])) (fun t k => XS.iload X7.here hx rfl (hb hby at_74) rfl k) ?_
      have hv : own_known (i0 &&& (255 : Int32)) = 1 := by rw [hc44]; rfl
      refine own_by (B := T7.setTop (mkF m 79 #[.val (.int i0), .val (.int i1), .val (.int i2), .val (.int (i0 &&& (255 : Int32))), .val (.int (i1 &&& (65535 : Int32))), .val (.ref b1), .val (.ref b3), .val (.int (1 : Int32))] [])) (fun t k => XS.icmpNo X7.here hx rfl (hb hby at_76) rfl (teq hv).2 k) ?_
      refine own_by (B := T7.setTop (mkF m 81 #[.val (.int i0), .val (.int i1), .val (.int i2), .val (.int (i0 &&& (255 : Int32))), .val (.int (i1 &&& (65535 : Int32))), .val (.ref b1), .val (.ref b3), .val (.int (1 : Int32))] [(.ref b3)])) (fun t k => XS.aload X7.here hx rfl (hb hby at_79) rfl rfl k) ?_
      obtain ⟨cq8, kq8, q8a, q8b, q8c⟩ := isOf hZ ec7 E_b3
      obtain ⟨_, _, ⟨T8, L8, k8, n8⟩, -, X8, ⟨Lc8, hQ8, l8, y8, z8⟩, st8⟩ := X7.virtualBack hx (y := (⟨"com/example/palaver/palaver/protocol/FlapFrame", "type", "()I"⟩ : MethodName)) (z := (⟨"com/example/palaver/palaver/protocol/FlapFrame", "type", "()I"⟩ : MethodName)) hown (mvT hZ (hw _ (List.mem_of_getElem? (i := 44) rfl))) (mvT hZ (hw _ (List.mem_of_getElem? (i := 45) rfl))) (notFace_of_selects (args := #[]) (mvT hZ (hw _ (List.mem_of_getElem? (i := 47) rfl)))) (mvT hZ (hw _ (List.mem_of_getElem? (i := 47) rfl))) (mvT hZ (hw _ (List.mem_of_getElem? (i := 46) rfl))) (by decide) (backOf (W := 0) (rmT l Z a0 hw [] b3 (i0 &&& (255 : Int32)) T4.heap n0 Zs F_type_b3) hZ (hw _ (List.mem_of_getElem? (i := 48) rfl)) (hw _ (List.mem_of_getElem? (i := 4) rfl)) (by decide) (by decide)) q8a q8c (g := (mkF m 81 #[.val (.int i0), .val (.int i1), .val (.int i2), .val (.int (i0 &&& (255 : Int32))), .val (.int (i1 &&& (65535 : Int32))), .val (.ref b1), .val (.ref b3), .val (.int (1 : Int32))] [(.ref b3)])) rfl (by rw [hml]; rfl) (Steps.refl _) (argsL := []) (rest := []) (lenOf own_pd3 rfl) rfl (by show 2 * 0 + _ ≤ _; exact Nat.le_of_eq rfl) (hb hby at_81) (fun _ _ => ⟨rfl, ec7, (by decide : 5 + 0 ≤ _), (by decide : 69 + 0 ≤ _)⟩)
      dsimp only [Pt.U, Pt.locs, Pt.cells, Pt.slots] at X8 l8 y8 z8 st8 hQ8
      subst l8 y8 z8
      obtain ⟨rfl, Nq8, hp8⟩ := hQ8
      have Nf := Fr.app Nf Nq8
      have ec8 : T8.heap = T4.heap := hp8
      refine own_by (B := T8.setTop (mkF m 84 #[.val (.int i0), .val (.int i1), .val (.int i2), .val (.int (i0 &&& (255 : Int32))), .val (.int (i1 &&& (65535 : Int32))), .val (.ref b1), .val (.ref b3), .val (.int (1 : Int32))] [(.int (i0 &&& (255 : Int32)))])) (fun t k => st8.trans k) ?_
      refine own_by (B := T8.setTop (mkF m 85 #[.val (.int i0), .val (.int i1), .val (.int i2), .val (.int (i0 &&& (255 : Int32))), .val (.int (i1 &&& (65535 : Int32))), .val (.ref b1), .val (.ref b3), .val (.int (1 : Int32))] [(.int (i0 &&& (255 : Int32))), (.int (i0 &&& (255 : Int32)))])) (fun t k => XS.iloadN X8.here hx rfl (hb hby at_84) rfl k) ?_
      refine own_by (B := T8.setTop (mkF m 88 #[.val (.int i0), .val (.int i1), .val (.int i2), .val (.int (i0 &&& (255 : Int32))), .val (.int (i1 &&& (65535 : Int32))), .val (.ref b1), .val (.ref b3), .val (.int (1 : Int32))] [])) (fun t k => XS.icmpNo X8.here hx rfl (hb hby at_85) rfl (teq rfl).2 k) ?_
      refine own_by (B := T8.setTop (mkF m 89 #[.val (.int i0), .val (.int i1), .val (.int i2), .val (.int (i0 &&& (255 : Int32))), .val (.int (i1 &&& (65535 : Int32))), .val (.ref b1), .val (.ref b3), .val (.int (1 : Int32))] [(.int (1 : Int32))])) (fun t k => XS.iconst X8.here hx rfl (hb hby at_88) k) ?_
      refine own_by (B := T8.setTop (mkF m 93 #[.val (.int i0), .val (.int i1), .val (.int i2), .val (.int (i0 &&& (255 : Int32))), .val (.int (i1 &&& (65535 : Int32))), .val (.ref b1), .val (.ref b3), .val (.int (1 : Int32))] [(.int (1 : Int32))])) (fun t k => XS.goto X8.here hx rfl (pc0 := 89) (pc' := 93) rfl (hb hby at_89) (by decide) (by decide) k) ?_
      exact own_endW X8 hS (by rw [ec8]; exact Zk) (v := some (.int (1 : Int32))) (fun h => by rw [Bd.returns] at h; cases h) (BodyLoose.notSynchronized Bd) (Q := (Q_rm0 Z i0 i1 i2 h0 n0)) (fun fs hr => retN X8 hx (t := .boolean) Bd.returns (by simp) (hb hby at_93) hr) (show (Q_rm0 Z i0 i1 i2 h0 n0) _ T8.heap _ from (by rw [ec8]; exact ⟨rfl, Nf⟩)) (by decide) (by decide)
    · refine own_by (B := T4.setTop (mkF m 47 #[.val (.int i0), .val (.int i1), .val (.int i2), .val (.int (i0 &&& (255 : Int32))), .val (.int (i1 &&& (65535 : Int32))), .val (.ref b1), .val (.ref b3), .unset] [])) (fun t k => XS.icmpNo X4.here hx rfl (hb hby at_44) rfl (feq hc44).1 k) ?_
      refine own_by (B := T4.setTop (mkF m 48 #[.val (.int i0), .val (.int i1), .val (.int i2), .val (.int (i0 &&& (255 : Int32))), .val (.int (i1 &&& (65535 : Int32))), .val (.ref b1), .val (.ref b3), .unset] [(.int (i0 &&& (255 : Int32)))])) (fun t k => XS.iloadN X4.here hx rfl (hb hby at_47) rfl k) ?_
      refine own_by (B := T4.setTop (mkF m 49 #[.val (.int i0), .val (.int i1), .val (.int i2), .val (.int (i0 &&& (255 : Int32))), .val (.int (i1 &&& (65535 : Int32))), .val (.ref b1), .val (.ref b3), .unset] [(.int (3 : Int32)), (.int (i0 &&& (255 : Int32)))])) (fun t k => XS.iconst X4.here hx rfl (hb hby at_48) k) ?_
      by_cases hc49 : (i0 &&& (255 : Int32)) = (3 : Int32)
      · refine own_by (B := T4.setTop (mkF m 62 #[.val (.int i0), .val (.int i1), .val (.int i2), .val (.int (i0 &&& (255 : Int32))), .val (.int (i1 &&& (65535 : Int32))), .val (.ref b1), .val (.ref b3), .unset] [])) (fun t k => XS.icmpYes X4.here hx rfl (pc0 := 49) (pc' := 62) rfl (hb hby at_49) rfl (teq hc49).1 (by decide) (by decide) k) ?_
        refine own_by (B := T4.setTop (mkF m 63 #[.val (.int i0), .val (.int i1), .val (.int i2), .val (.int (i0 &&& (255 : Int32))), .val (.int (i1 &&& (65535 : Int32))), .val (.ref b1), .val (.ref b3), .unset] [(.int (1 : Int32))])) (fun t k => XS.iconst X4.here hx rfl (hb hby at_62) k) ?_
        refine own_by (B := T4.setTop (mkF m 67 #[.val (.int i0), .val (.int i1), .val (.int i2), .val (.int (i0 &&& (255 : Int32))), .val (.int (i1 &&& (65535 : Int32))), .val (.ref b1), .val (.ref b3), .unset] [(.int (1 : Int32))])) (fun t k => XS.goto X4.here hx rfl (pc0 := 63) (pc' := 67) rfl (hb hby at_63) (by decide) (by decide) k) ?_
        refine own_by (B := T4.setTop (mkF m 69 #[.val (.int i0), .val (.int i1), .val (.int i2), .val (.int (i0 &&& (255 : Int32))), .val (.int (i1 &&& (65535 : Int32))), .val (.ref b1), .val (.ref b3), .val (.int (1 : Int32))] [])) (fun t k => XS.istore X4.here hx rfl (hb hby at_67) rfl (l' := #[.val (.int i0), .val (.int i1), .val (.int i2), .val (.int (i0 &&& (255 : Int32))), .val (.int (i1 &&& (65535 : Int32))), .val (.ref b1), .val (.ref b3), .val (.int (1 : Int32))]) rfl k) ?_
        refine own_by (B := T4.setTop (mkF m 71 #[.val (.int i0), .val (.int i1), .val (.int i2), .val (.int (i0 &&& (255 : Int32))), .val (.int (i1 &&& (65535 : Int32))), .val (.ref b1), .val (.ref b3), .val (.int (1 : Int32))] [(.ref b3)])) (fun t k => XS.aload X4.here hx rfl (hb hby at_69) rfl rfl k) ?_
        obtain ⟨cq9, kq9, q9a, q9b, q9c⟩ := isOf hZ rfl E_b3
        obtain ⟨_, _, ⟨T9, L9, k9, n9⟩, -, X9, ⟨Lc9, hQ9, l9, y9, z9⟩, st9⟩ := X4.virtualBack hx (y := (⟨"com/example/palaver/palaver/protocol/FlapFrame", "hasKnownType", "()Z"⟩ : MethodName)) (z := (⟨"com/example/palaver/palaver/protocol/FlapFrame", "hasKnownType", "()Z"⟩ : MethodName)) hown (mvT hZ (hw _ (List.mem_of_getElem? (i := 39) rfl))) (mvT hZ (hw _ (List.mem_of_getElem? (i := 40) rfl))) (notFace_of_selects (args := #[]) (mvT hZ (hw _ (List.mem_of_getElem? (i := 42) rfl)))) (mvT hZ (hw _ (List.mem_of_getElem? (i := 42) rfl))) (mvT hZ (hw _ (List.mem_of_getElem? (i := 41) rfl))) (by decide) (backOf (W := 0) (rmK l Z a0 hw [] b3 (i0 &&& (255 : Int32)) T4.heap n0 Zs F_type_b3) hZ (hw _ (List.mem_of_getElem? (i := 43) rfl)) (hw _ (List.mem_of_getElem? (i := 4) rfl)) (by decide) (by decide)) q9a q9c (g := (mkF m 71 #[.val (.int i0), .val (.int i1), .val (.int i2), .val (.int (i0 &&& (255 : Int32))), .val (.int (i1 &&& (65535 : Int32))), .val (.ref b1), .val (.ref b3), .val (.int (1 : Int32))] [(.ref b3)])) rfl (by rw [hml]; rfl) (Steps.refl _) (argsL := []) (rest := []) (lenOf own_pd2 rfl) rfl (by show 2 * 0 + _ ≤ _; exact Nat.le_of_eq rfl) (hb hby at_71) (fun _ _ => ⟨rfl, rfl, (by decide : 5 + 0 ≤ _), (by decide : 69 + 0 ≤ _)⟩)
        dsimp only [Pt.U, Pt.locs, Pt.cells, Pt.slots] at X9 l9 y9 z9 st9 hQ9
        subst l9 y9 z9
        obtain ⟨rfl, Nq9, hp9⟩ := hQ9
        have Nf := Fr.app Nf Nq9
        have ec9 : T9.heap = T4.heap := hp9
        refine own_by (B := T9.setTop (mkF m 74 #[.val (.int i0), .val (.int i1), .val (.int i2), .val (.int (i0 &&& (255 : Int32))), .val (.int (i1 &&& (65535 : Int32))), .val (.ref b1), .val (.ref b3), .val (.int (1 : Int32))] [(.int (own_known (i0 &&& (255 : Int32))))])) (fun t k => st9.trans k) ?_
        refine own_by (B := T9.setTop (mkF m 76 #[.val (.int i0), .val (.int i1), .val (.int i2), .val (.int (i0 &&& (255 : Int32))), .val (.int (i1 &&& (65535 : Int32))), .val (.ref b1), .val (.ref b3), .val (.int (1 : Int32))] [(.int (1 : Int32)), (.int (own_known (i0 &&& (255 : Int32))))])) (fun t k => XS.iload X9.here hx rfl (hb hby at_74) rfl k) ?_
        have hv : own_known (i0 &&& (255 : Int32)) = 1 := by rw [hc49]; rfl
        refine own_by (B := T9.setTop (mkF m 79 #[.val (.int i0), .val (.int i1), .val (.int i2), .val (.int (i0 &&& (255 : Int32))), .val (.int (i1 &&& (65535 : Int32))), .val (.ref b1), .val (.ref b3), .val (.int (1 : Int32))] [])) (fun t k => XS.icmpNo X9.here hx rfl (hb hby at_76) rfl (teq hv).2 k) ?_
        refine own_by (B := T9.setTop (mkF m 81 #[.val (.int i0), .val (.int i1), .val (.int i2), .val (.int (i0 &&& (255 : Int32))), .val (.int (i1 &&& (65535 : Int32))), .val (.ref b1), .val (.ref b3), .val (.int (1 : Int32))] [(.ref b3)])) (fun t k => XS.aload X9.here hx rfl (hb hby at_79) rfl rfl k) ?_
        obtain ⟨cq10, kq10, q10a, q10b, q10c⟩ := isOf hZ ec9 E_b3
        obtain ⟨_, _, ⟨T10, L10, k10, n10⟩, -, X10, ⟨Lc10, hQ10, l10, y10, z10⟩, st10⟩ := X9.virtualBack hx (y := (⟨"com/example/palaver/palaver/protocol/FlapFrame", "type", "()I"⟩ : MethodName)) (z := (⟨"com/example/palaver/palaver/protocol/FlapFrame", "type", "()I"⟩ : MethodName)) hown (mvT hZ (hw _ (List.mem_of_getElem? (i := 44) rfl))) (mvT hZ (hw _ (List.mem_of_getElem? (i := 45) rfl))) (notFace_of_selects (args := #[]) (mvT hZ (hw _ (List.mem_of_getElem? (i := 47) rfl)))) (mvT hZ (hw _ (List.mem_of_getElem? (i := 47) rfl))) (mvT hZ (hw _ (List.mem_of_getElem? (i := 46) rfl))) (by decide) (backOf (W := 0) (rmT l Z a0 hw [] b3 (i0 &&& (255 : Int32)) T4.heap n0 Zs F_type_b3) hZ (hw _ (List.mem_of_getElem? (i := 48) rfl)) (hw _ (List.mem_of_getElem? (i := 4) rfl)) (by decide) (by decide)) q10a q10c (g := (mkF m 81 #[.val (.int i0), .val (.int i1), .val (.int i2), .val (.int (i0 &&& (255 : Int32))), .val (.int (i1 &&& (65535 : Int32))), .val (.ref b1), .val (.ref b3), .val (.int (1 : Int32))] [(.ref b3)])) rfl (by rw [hml]; rfl) (Steps.refl _) (argsL := []) (rest := []) (lenOf own_pd3 rfl) rfl (by show 2 * 0 + _ ≤ _; exact Nat.le_of_eq rfl) (hb hby at_81) (fun _ _ => ⟨rfl, ec9, (by decide : 5 + 0 ≤ _), (by decide : 69 + 0 ≤ _)⟩)
        dsimp only [Pt.U, Pt.locs, Pt.cells, Pt.slots] at X10 l10 y10 z10 st10 hQ10
        subst l10 y10 z10
        obtain ⟨rfl, Nq10, hp10⟩ := hQ10
        have Nf := Fr.app Nf Nq10
        have ec10 : T10.heap = T4.heap := hp10
        refine own_by (B := T10.setTop (mkF m 84 #[.val (.int i0), .val (.int i1), .val (.int i2), .val (.int (i0 &&& (255 : Int32))), .val (.int (i1 &&& (65535 : Int32))), .val (.ref b1), .val (.ref b3), .val (.int (1 : Int32))] [(.int (i0 &&& (255 : Int32)))])) (fun t k => st10.trans k) ?_
        refine own_by (B := T10.setTop (mkF m 85 #[.val (.int i0), .val (.int i1), .val (.int i2), .val (.int (i0 &&& (255 : Int32))), .val (.int (i1 &&& (65535 : Int32))), .val (.ref b1), .val (.ref b3), .val (.int (1 : Int32))] [(.int (i0 &&& (255 : Int32))), (.int (i0 &&& (255 : Int32)))])) (fun t k => XS.iloadN X10.here hx rfl (hb hby at_84) rfl k) ?_
        refine own_by (B := T10.setTop (mkF m 88 #[.val (.int i0), .val (.int i1), .val (.int i2), .val (.int (i0 &&& (255 : Int32))), .val (.int (i1 &&& (65535 : Int32))), .val (.ref b1), .val (.ref b3), .val (.int (1 : Int32))] [])) (fun t k => XS.icmpNo X10.here hx rfl (hb hby at_85) rfl (teq rfl).2 k) ?_
        refine own_by (B := T10.setTop (mkF m 89 #[.val (.int i0), .val (.int i1), .val (.int i2), .val (.int (i0 &&& (255 : Int32))), .val (.int (i1 &&& (65535 : Int32))), .val (.ref b1), .val (.ref b3), .val (.int (1 : Int32))] [(.int (1 : Int32))])) (fun t k => XS.iconst X10.here hx rfl (hb hby at_88) k) ?_
        refine own_by (B := T10.setTop (mkF m 93 #[.val (.int i0), .val (.int i1), .val (.int i2), .val (.int (i0 &&& (255 : Int32))), .val (.int (i1 &&& (65535 : Int32))), .val (.ref b1), .val (.ref b3), .val (.int (1 : Int32))] [(.int (1 : Int32))])) (fun t k => XS.goto X10.here hx rfl (pc0 := 89) (pc' := 93) rfl (hb hby at_89) (by decide) (by decide) k) ?_
        exact own_endW X10 hS (by rw [ec10]; exact Zk) (v := some (.int (1 : Int32))) (fun h => by rw [Bd.returns] at h; cases h) (BodyLoose.notSynchronized Bd) (Q := (Q_rm0 Z i0 i1 i2 h0 n0)) (fun fs hr => retN X10 hx (t := .boolean) Bd.returns (by simp) (hb hby at_93) hr) (show (Q_rm0 Z i0 i1 i2 h0 n0) _ T10.heap _ from (by rw [ec10]; exact ⟨rfl, Nf⟩)) (by decide) (by decide)
      · refine own_by (B := T4.setTop (mkF m 52 #[.val (.int i0), .val (.int i1), .val (.int i2), .val (.int (i0 &&& (255 : Int32))), .val (.int (i1 &&& (65535 : Int32))), .val (.ref b1), .val (.ref b3), .unset] [])) (fun t k => XS.icmpNo X4.here hx rfl (hb hby at_49) rfl (feq hc49).1 k) ?_
        refine own_by (B := T4.setTop (mkF m 53 #[.val (.int i0), .val (.int i1), .val (.int i2), .val (.int (i0 &&& (255 : Int32))), .val (.int (i1 &&& (65535 : Int32))), .val (.ref b1), .val (.ref b3), .unset] [(.int (i0 &&& (255 : Int32)))])) (fun t k => XS.iloadN X4.here hx rfl (hb hby at_52) rfl k) ?_
        refine own_by (B := T4.setTop (mkF m 54 #[.val (.int i0), .val (.int i1), .val (.int i2), .val (.int (i0 &&& (255 : Int32))), .val (.int (i1 &&& (65535 : Int32))), .val (.ref b1), .val (.ref b3), .unset] [(.int (4 : Int32)), (.int (i0 &&& (255 : Int32)))])) (fun t k => XS.iconst X4.here hx rfl (hb hby at_53) k) ?_
        by_cases hc54 : (i0 &&& (255 : Int32)) = (4 : Int32)
        · refine own_by (B := T4.setTop (mkF m 62 #[.val (.int i0), .val (.int i1), .val (.int i2), .val (.int (i0 &&& (255 : Int32))), .val (.int (i1 &&& (65535 : Int32))), .val (.ref b1), .val (.ref b3), .unset] [])) (fun t k => XS.icmpYes X4.here hx rfl (pc0 := 54) (pc' := 62) rfl (hb hby at_54) rfl (teq hc54).1 (by decide) (by decide) k) ?_
          refine own_by (B := T4.setTop (mkF m 63 #[.val (.int i0), .val (.int i1), .val (.int i2), .val (.int (i0 &&& (255 : Int32))), .val (.int (i1 &&& (65535 : Int32))), .val (.ref b1), .val (.ref b3), .unset] [(.int (1 : Int32))])) (fun t k => XS.iconst X4.here hx rfl (hb hby at_62) k) ?_
          refine own_by (B := T4.setTop (mkF m 67 #[.val (.int i0), .val (.int i1), .val (.int i2), .val (.int (i0 &&& (255 : Int32))), .val (.int (i1 &&& (65535 : Int32))), .val (.ref b1), .val (.ref b3), .unset] [(.int (1 : Int32))])) (fun t k => XS.goto X4.here hx rfl (pc0 := 63) (pc' := 67) rfl (hb hby at_63) (by decide) (by decide) k) ?_
          refine own_by (B := T4.setTop (mkF m 69 #[.val (.int i0), .val (.int i1), .val (.int i2), .val (.int (i0 &&& (255 : Int32))), .val (.int (i1 &&& (65535 : Int32))), .val (.ref b1), .val (.ref b3), .val (.int (1 : Int32))] [])) (fun t k => XS.istore X4.here hx rfl (hb hby at_67) rfl (l' := #[.val (.int i0), .val (.int i1), .val (.int i2), .val (.int (i0 &&& (255 : Int32))), .val (.int (i1 &&& (65535 : Int32))), .val (.ref b1), .val (.ref b3), .val (.int (1 : Int32))]) rfl k) ?_
          refine own_by (B := T4.setTop (mkF m 71 #[.val (.int i0), .val (.int i1), .val (.int i2), .val (.int (i0 &&& (255 : Int32))), .val (.int (i1 &&& (65535 : Int32))), .val (.ref b1), .val (.ref b3), .val (.int (1 : Int32))] [(.ref b3)])) (fun t k => XS.aload X4.here hx rfl (hb hby at_69) rfl rfl k) ?_
          obtain ⟨cq11, kq11, q11a, q11b, q11c⟩ := isOf hZ rfl E_b3
          obtain ⟨_, _, ⟨T11, L11, k11, n11⟩, -, X11, ⟨Lc11, hQ11, l11, y11, z11⟩, st11⟩ := X4.virtualBack hx (y := (⟨"com/example/palaver/palaver/protocol/FlapFrame", "hasKnownType", "()Z"⟩ : MethodName)) (z := (⟨"com/example/palaver/palaver/protocol/FlapFrame", "hasKnownType", "()Z"⟩ : MethodName)) hown (mvT hZ (hw _ (List.mem_of_getElem? (i := 39) rfl))) (mvT hZ (hw _ (List.mem_of_getElem? (i := 40) rfl))) (notFace_of_selects (args := #[]) (mvT hZ (hw _ (List.mem_of_getElem? (i := 42) rfl)))) (mvT hZ (hw _ (List.mem_of_getElem? (i := 42) rfl))) (mvT hZ (hw _ (List.mem_of_getElem? (i := 41) rfl))) (by decide) (backOf (W := 0) (rmK l Z a0 hw [] b3 (i0 &&& (255 : Int32)) T4.heap n0 Zs F_type_b3) hZ (hw _ (List.mem_of_getElem? (i := 43) rfl)) (hw _ (List.mem_of_getElem? (i := 4) rfl)) (by decide) (by decide)) q11a q11c (g := (mkF m 71 #[.val (.int i0), .val (.int i1), .val (.int i2), .val (.int (i0 &&& (255 : Int32))), .val (.int (i1 &&& (65535 : Int32))), .val (.ref b1), .val (.ref b3), .val (.int (1 : Int32))] [(.ref b3)])) rfl (by rw [hml]; rfl) (Steps.refl _) (argsL := []) (rest := []) (lenOf own_pd2 rfl) rfl (by show 2 * 0 + _ ≤ _; exact Nat.le_of_eq rfl) (hb hby at_71) (fun _ _ => ⟨rfl, rfl, (by decide : 5 + 0 ≤ _), (by decide : 69 + 0 ≤ _)⟩)
          dsimp only [Pt.U, Pt.locs, Pt.cells, Pt.slots] at X11 l11 y11 z11 st11 hQ11
          subst l11 y11 z11
          obtain ⟨rfl, Nq11, hp11⟩ := hQ11
          have Nf := Fr.app Nf Nq11
          have ec11 : T11.heap = T4.heap := hp11
          refine own_by (B := T11.setTop (mkF m 74 #[.val (.int i0), .val (.int i1), .val (.int i2), .val (.int (i0 &&& (255 : Int32))), .val (.int (i1 &&& (65535 : Int32))), .val (.ref b1), .val (.ref b3), .val (.int (1 : Int32))] [(.int (own_known (i0 &&& (255 : Int32))))])) (fun t k => st11.trans k) ?_
          refine own_by (B := T11.setTop (mkF m 76 #[.val (.int i0), .val (.int i1), .val (.int i2), .val (.int (i0 &&& (255 : Int32))), .val (.int (i1 &&& (65535 : Int32))), .val (.ref b1), .val (.ref b3), .val (.int (1 : Int32))] [(.int (1 : Int32)), (.int (own_known (i0 &&& (255 : Int32))))])) (fun t k => XS.iload X11.here hx rfl (hb hby at_74) rfl k) ?_
          have hv : own_known (i0 &&& (255 : Int32)) = 1 := by rw [hc54]; rfl
          refine own_by (B := T11.setTop (mkF m 79 #[.val (.int i0), .val (.int i1), .val (.int i2), .val (.int (i0 &&& (255 : Int32))), .val (.int (i1 &&& (65535 : Int32))), .val (.ref b1), .val (.ref b3), .val (.int (1 : Int32))] [])) (fun t k => XS.icmpNo X11.here hx rfl (hb hby at_76) rfl (teq hv).2 k) ?_
          refine own_by (B := T11.setTop (mkF m 81 #[.val (.int i0), .val (.int i1), .val (.int i2), .val (.int (i0 &&& (255 : Int32))), .val (.int (i1 &&& (65535 : Int32))), .val (.ref b1), .val (.ref b3), .val (.int (1 : Int32))] [(.ref b3)])) (fun t k => XS.aload X11.here hx rfl (hb hby at_79) rfl rfl k) ?_
          obtain ⟨cq12, kq12, q12a, q12b, q12c⟩ := isOf hZ ec11 E_b3
          obtain ⟨_, _, ⟨T12, L12, k12, n12⟩, -, X12, ⟨Lc12, hQ12, l12, y12, z12⟩, st12⟩ := X11.virtualBack hx (y := (⟨"com/example/palaver/palaver/protocol/FlapFrame", "type", "()I"⟩ : MethodName)) (z := (⟨"com/example/palaver/palaver/protocol/FlapFrame", "type", "()I"⟩ : MethodName)) hown (mvT hZ (hw _ (List.mem_of_getElem? (i := 44) rfl))) (mvT hZ (hw _ (List.mem_of_getElem? (i := 45) rfl))) (notFace_of_selects (args := #[]) (mvT hZ (hw _ (List.mem_of_getElem? (i := 47) rfl)))) (mvT hZ (hw _ (List.mem_of_getElem? (i := 47) rfl))) (mvT hZ (hw _ (List.mem_of_getElem? (i := 46) rfl))) (by decide) (backOf (W := 0) (rmT l Z a0 hw [] b3 (i0 &&& (255 : Int32)) T4.heap n0 Zs F_type_b3) hZ (hw _ (List.mem_of_getElem? (i := 48) rfl)) (hw _ (List.mem_of_getElem? (i := 4) rfl)) (by decide) (by decide)) q12a q12c (g := (mkF m 81 #[.val (.int i0), .val (.int i1), .val (.int i2), .val (.int (i0 &&& (255 : Int32))), .val (.int (i1 &&& (65535 : Int32))), .val (.ref b1), .val (.ref b3), .val (.int (1 : Int32))] [(.ref b3)])) rfl (by rw [hml]; rfl) (Steps.refl _) (argsL := []) (rest := []) (lenOf own_pd3 rfl) rfl (by show 2 * 0 + _ ≤ _; exact Nat.le_of_eq rfl) (hb hby at_81) (fun _ _ => ⟨rfl, ec11, (by decide : 5 + 0 ≤ _), (by decide : 69 + 0 ≤ _)⟩)
          dsimp only [Pt.U, Pt.locs, Pt.cells, Pt.slots] at X12 l12 y12 z12 st12 hQ12
          subst l12 y12 z12
          obtain ⟨rfl, Nq12, hp12⟩ := hQ12
          have Nf := Fr.app Nf Nq12
          have ec12 : T12.heap = T4.heap := hp12
          refine own_by (B := T12.setTop (mkF m 84 #[.val (.int i0), .val (.int i1), .val (.int i2), .val (.int (i0 &&& (255 : Int32))), .val (.int (i1 &&& (65535 : Int32))), .val (.ref b1), .val (.ref b3), .val (.int (1 : Int32))] [(.int (i0 &&& (255 : Int32)))])) (fun t k => st12.trans k) ?_
          refine own_by (B := T12.setTop (mkF m 85 #[.val (.int i0), .val (.int i1), .val (.int i2), .val (.int (i0 &&& (255 : Int32))), .val (.int (i1 &&& (65535 : Int32))), .val (.ref b1), .val (.ref b3), .val (.int (1 : Int32))] [(.int (i0 &&& (255 : Int32))), (.int (i0 &&& (255 : Int32)))])) (fun t k => XS.iloadN X12.here hx rfl (hb hby at_84) rfl k) ?_
          refine own_by (B := T12.setTop (mkF m 88 #[.val (.int i0), .val (.int i1), .val (.int i2), .val (.int (i0 &&& (255 : Int32))), .val (.int (i1 &&& (65535 : Int32))), .val (.ref b1), .val (.ref b3), .val (.int (1 : Int32))] [])) (fun t k => XS.icmpNo X12.here hx rfl (hb hby at_85) rfl (teq rfl).2 k) ?_
          refine own_by (B := T12.setTop (mkF m 89 #[.val (.int i0), .val (.int i1), .val (.int i2), .val (.int (i0 &&& (255 : Int32))), .val (.int (i1 &&& (65535 : Int32))), .val (.ref b1), .val (.ref b3), .val (.int (1 : Int32))] [(.int (1 : Int32))])) (fun t k => XS.iconst X12.here hx rfl (hb hby at_88) k) ?_
          refine own_by (B := T12.setTop (mkF m 93 #[.val (.int i0), .val (.int i1), .val (.int i2), .val (.int (i0 &&& (255 : Int32))), .val (.int (i1 &&& (65535 : Int32))), .val (.ref b1), .val (.ref b3), .val (.int (1 : Int32))] [(.int (1 : Int32))])) (fun t k => XS.goto X12.here hx rfl (pc0 := 89) (pc' := 93) rfl (hb hby at_89) (by decide) (by decide) k) ?_
          exact own_endW X12 hS (by rw [ec12]; exact Zk) (v := some (.int (1 : Int32))) (fun h => by rw [Bd.returns] at h; cases h) (BodyLoose.notSynchronized Bd) (Q := (Q_rm0 Z i0 i1 i2 h0 n0)) (fun fs hr => retN X12 hx (t := .boolean) Bd.returns (by simp) (hb hby at_93) hr) (show (Q_rm0 Z i0 i1 i2 h0 n0) _ T12.heap _ from (by rw [ec12]; exact ⟨rfl, Nf⟩)) (by decide) (by decide)
        · refine own_by (B := T4.setTop (mkF m 57 #[.val (.int i0), .val (.int i1), .val (.int i2), .val (.int (i0 &&& (255 : Int32))), .val (.int (i1 &&& (65535 : Int32))), .val (.ref b1), .val (.ref b3), .unset] [])) (fun t k => XS.icmpNo X4.here hx rfl (hb hby at_54) rfl (feq hc54).1 k) ?_
          refine own_by (B := T4.setTop (mkF m 58 #[.val (.int i0), .val (.int i1), .val (.int i2), .val (.int (i0 &&& (255 : Int32))), .val (.int (i1 &&& (65535 : Int32))), .val (.ref b1), .val (.ref b3), .unset] [(.int (i0 &&& (255 : Int32)))])) (fun t k => XS.iloadN X4.here hx rfl (hb hby at_57) rfl k) ?_
          refine own_by (B := T4.setTop (mkF m 59 #[.val (.int i0), .val (.int i1), .val (.int i2), .val (.int (i0 &&& (255 : Int32))), .val (.int (i1 &&& (65535 : Int32))), .val (.ref b1), .val (.ref b3), .unset] [(.int (5 : Int32)), (.int (i0 &&& (255 : Int32)))])) (fun t k => XS.iconst X4.here hx rfl (hb hby at_58) k) ?_
          by_cases hc59 : (i0 &&& (255 : Int32)) = (5 : Int32)
          · refine own_by (B := T4.setTop (mkF m 62 #[.val (.int i0), .val (.int i1), .val (.int i2), .val (.int (i0 &&& (255 : Int32))), .val (.int (i1 &&& (65535 : Int32))), .val (.ref b1), .val (.ref b3), .unset] [])) (fun t k => XS.icmpNo X4.here hx rfl (hb hby at_59) rfl (teq hc59).2 k) ?_
            refine own_by (B := T4.setTop (mkF m 63 #[.val (.int i0), .val (.int i1), .val (.int i2), .val (.int (i0 &&& (255 : Int32))), .val (.int (i1 &&& (65535 : Int32))), .val (.ref b1), .val (.ref b3), .unset] [(.int (1 : Int32))])) (fun t k => XS.iconst X4.here hx rfl (hb hby at_62) k) ?_
            refine own_by (B := T4.setTop (mkF m 67 #[.val (.int i0), .val (.int i1), .val (.int i2), .val (.int (i0 &&& (255 : Int32))), .val (.int (i1 &&& (65535 : Int32))), .val (.ref b1), .val (.ref b3), .unset] [(.int (1 : Int32))])) (fun t k => XS.goto X4.here hx rfl (pc0 := 63) (pc' := 67) rfl (hb hby at_63) (by decide) (by decide) k) ?_
            refine own_by (B := T4.setTop (mkF m 69 #[.val (.int i0), .val (.int i1), .val (.int i2), .val (.int (i0 &&& (255 : Int32))), .val (.int (i1 &&& (65535 : Int32))), .val (.ref b1), .val (.ref b3), .val (.int (1 : Int32))] [])) (fun t k => XS.istore X4.here hx rfl (hb hby at_67) rfl (l' := #[.val (.int i0), .val (.int i1), .val (.int i2), .val (.int (i0 &&& (255 : Int32))), .val (.int (i1 &&& (65535 : Int32))), .val (.ref b1), .val (.ref b3), .val (.int (1 : Int32))]) rfl k) ?_
            refine own_by (B := T4.setTop (mkF m 71 #[.val (.int i0), .val (.int i1), .val (.int i2), .val (.int (i0 &&& (255 : Int32))), .val (.int (i1 &&& (65535 : Int32))), .val (.ref b1), .val (.ref b3), .val (.int (1 : Int32))] [(.ref b3)])) (fun t k => XS.aload X4.here hx rfl (hb hby at_69) rfl rfl k) ?_
            obtain ⟨cq13, kq13, q13a, q13b, q13c⟩ := isOf hZ rfl E_b3
            obtain ⟨_, _, ⟨T13, L13, k13, n13⟩, -, X13, ⟨Lc13, hQ13, l13, y13, z13⟩, st13⟩ := X4.virtualBack hx (y := (⟨"com/example/palaver/palaver/protocol/FlapFrame", "hasKnownType", "()Z"⟩ : MethodName)) (z := (⟨"com/example/palaver/palaver/protocol/FlapFrame", "hasKnownType", "()Z"⟩ : MethodName)) hown (mvT hZ (hw _ (List.mem_of_getElem? (i := 39) rfl))) (mvT hZ (hw _ (List.mem_of_getElem? (i := 40) rfl))) (notFace_of_selects (args := #[]) (mvT hZ (hw _ (List.mem_of_getElem? (i := 42) rfl)))) (mvT hZ (hw _ (List.mem_of_getElem? (i := 42) rfl))) (mvT hZ (hw _ (List.mem_of_getElem? (i := 41) rfl))) (by decide) (backOf (W := 0) (rmK l Z a0 hw [] b3 (i0 &&& (255 : Int32)) T4.heap n0 Zs F_type_b3) hZ (hw _ (List.mem_of_getElem? (i := 43) rfl)) (hw _ (List.mem_of_getElem? (i := 4) rfl)) (by decide) (by decide)) q13a q13c (g := (mkF m 71 #[.val (.int i0), .val (.int i1), .val (.int i2), .val (.int (i0 &&& (255 : Int32))), .val (.int (i1 &&& (65535 : Int32))), .val (.ref b1), .val (.ref b3), .val (.int (1 : Int32))] [(.ref b3)])) rfl (by rw [hml]; rfl) (Steps.refl _) (argsL := []) (rest := []) (lenOf own_pd2 rfl) rfl (by show 2 * 0 + _ ≤ _; exact Nat.le_of_eq rfl) (hb hby at_71) (fun _ _ => ⟨rfl, rfl, (by decide : 5 + 0 ≤ _), (by decide : 69 + 0 ≤ _)⟩)
            dsimp only [Pt.U, Pt.locs, Pt.cells, Pt.slots] at X13 l13 y13 z13 st13 hQ13
            subst l13 y13 z13
            obtain ⟨rfl, Nq13, hp13⟩ := hQ13
            have Nf := Fr.app Nf Nq13
            have ec13 : T13.heap = T4.heap := hp13
            refine own_by (B := T13.setTop (mkF m 74 #[.val (.int i0), .val (.int i1), .val (.int i2), .val (.int (i0 &&& (255 : Int32))), .val (.int (i1 &&& (65535 : Int32))), .val (.ref b1), .val (.ref b3), .val (.int (1 : Int32))] [(.int (own_known (i0 &&& (255 : Int32))))])) (fun t k => st13.trans k) ?_
            refine own_by (B := T13.setTop (mkF m 76 #[.val (.int i0), .val (.int i1), .val (.int i2), .val (.int (i0 &&& (255 : Int32))), .val (.int (i1 &&& (65535 : Int32))), .val (.ref b1), .val (.ref b3), .val (.int (1 : Int32))] [(.int (1 : Int32)), (.int (own_known (i0 &&& (255 : Int32))))])) (fun t k => XS.iload X13.here hx rfl (hb hby at_74) rfl k) ?_
            have hv : own_known (i0 &&& (255 : Int32)) = 1 := by rw [hc59]; rfl
            refine own_by (B := T13.setTop (mkF m 79 #[.val (.int i0), .val (.int i1), .val (.int i2), .val (.int (i0 &&& (255 : Int32))), .val (.int (i1 &&& (65535 : Int32))), .val (.ref b1), .val (.ref b3), .val (.int (1 : Int32))] [])) (fun t k => XS.icmpNo X13.here hx rfl (hb hby at_76) rfl (teq hv).2 k) ?_
            refine own_by (B := T13.setTop (mkF m 81 #[.val (.int i0), .val (.int i1), .val (.int i2), .val (.int (i0 &&& (255 : Int32))), .val (.int (i1 &&& (65535 : Int32))), .val (.ref b1), .val (.ref b3), .val (.int (1 : Int32))] [(.ref b3)])) (fun t k => XS.aload X13.here hx rfl (hb hby at_79) rfl rfl k) ?_
            obtain ⟨cq14, kq14, q14a, q14b, q14c⟩ := isOf hZ ec13 E_b3
            obtain ⟨_, _, ⟨T14, L14, k14, n14⟩, -, X14, ⟨Lc14, hQ14, l14, y14, z14⟩, st14⟩ := X13.virtualBack hx (y := (⟨"com/example/palaver/palaver/protocol/FlapFrame", "type", "()I"⟩ : MethodName)) (z := (⟨"com/example/palaver/palaver/protocol/FlapFrame", "type", "()I"⟩ : MethodName)) hown (mvT hZ (hw _ (List.mem_of_getElem? (i := 44) rfl))) (mvT hZ (hw _ (List.mem_of_getElem? (i := 45) rfl))) (notFace_of_selects (args := #[]) (mvT hZ (hw _ (List.mem_of_getElem? (i := 47) rfl)))) (mvT hZ (hw _ (List.mem_of_getElem? (i := 47) rfl))) (mvT hZ (hw _ (List.mem_of_getElem? (i := 46) rfl))) (by decide) (backOf (W := 0) (rmT l Z a0 hw [] b3 (i0 &&& (255 : Int32)) T4.heap n0 Zs F_type_b3) hZ (hw _ (List.mem_of_getElem? (i := 48) rfl)) (hw _ (List.mem_of_getElem? (i := 4) rfl)) (by decide) (by decide)) q14a q14c (g := (mkF m 81 #[.val (.int i0), .val (.int i1), .val (.int i2), .val (.int (i0 &&& (255 : Int32))), .val (.int (i1 &&& (65535 : Int32))), .val (.ref b1), .val (.ref b3), .val (.int (1 : Int32))] [(.ref b3)])) rfl (by rw [hml]; rfl) (Steps.refl _) (argsL := []) (rest := []) (lenOf own_pd3 rfl) rfl (by show 2 * 0 + _ ≤ _; exact Nat.le_of_eq rfl) (hb hby at_81) (fun _ _ => ⟨rfl, ec13, (by decide : 5 + 0 ≤ _), (by decide : 69 + 0 ≤ _)⟩)
            dsimp only [Pt.U, Pt.locs, Pt.cells, Pt.slots] at X14 l14 y14 z14 st14 hQ14
            subst l14 y14 z14
            obtain ⟨rfl, Nq14, hp14⟩ := hQ14
            have Nf := Fr.app Nf Nq14
            have ec14 : T14.heap = T4.heap := hp14
            refine own_by (B := T14.setTop (mkF m 84 #[.val (.int i0), .val (.int i1), .val (.int i2), .val (.int (i0 &&& (255 : Int32))), .val (.int (i1 &&& (65535 : Int32))), .val (.ref b1), .val (.ref b3), .val (.int (1 : Int32))] [(.int (i0 &&& (255 : Int32)))])) (fun t k => st14.trans k) ?_
            refine own_by (B := T14.setTop (mkF m 85 #[.val (.int i0), .val (.int i1), .val (.int i2), .val (.int (i0 &&& (255 : Int32))), .val (.int (i1 &&& (65535 : Int32))), .val (.ref b1), .val (.ref b3), .val (.int (1 : Int32))] [(.int (i0 &&& (255 : Int32))), (.int (i0 &&& (255 : Int32)))])) (fun t k => XS.iloadN X14.here hx rfl (hb hby at_84) rfl k) ?_
            refine own_by (B := T14.setTop (mkF m 88 #[.val (.int i0), .val (.int i1), .val (.int i2), .val (.int (i0 &&& (255 : Int32))), .val (.int (i1 &&& (65535 : Int32))), .val (.ref b1), .val (.ref b3), .val (.int (1 : Int32))] [])) (fun t k => XS.icmpNo X14.here hx rfl (hb hby at_85) rfl (teq rfl).2 k) ?_
            refine own_by (B := T14.setTop (mkF m 89 #[.val (.int i0), .val (.int i1), .val (.int i2), .val (.int (i0 &&& (255 : Int32))), .val (.int (i1 &&& (65535 : Int32))), .val (.ref b1), .val (.ref b3), .val (.int (1 : Int32))] [(.int (1 : Int32))])) (fun t k => XS.iconst X14.here hx rfl (hb hby at_88) k) ?_
            refine own_by (B := T14.setTop (mkF m 93 #[.val (.int i0), .val (.int i1), .val (.int i2), .val (.int (i0 &&& (255 : Int32))), .val (.int (i1 &&& (65535 : Int32))), .val (.ref b1), .val (.ref b3), .val (.int (1 : Int32))] [(.int (1 : Int32))])) (fun t k => XS.goto X14.here hx rfl (pc0 := 89) (pc' := 93) rfl (hb hby at_89) (by decide) (by decide) k) ?_
            exact own_endW X14 hS (by rw [ec14]; exact Zk) (v := some (.int (1 : Int32))) (fun h => by rw [Bd.returns] at h; cases h) (BodyLoose.notSynchronized Bd) (Q := (Q_rm0 Z i0 i1 i2 h0 n0)) (fun fs hr => retN X14 hx (t := .boolean) Bd.returns (by simp) (hb hby at_93) hr) (show (Q_rm0 Z i0 i1 i2 h0 n0) _ T14.heap _ from (by rw [ec14]; exact ⟨rfl, Nf⟩)) (by decide) (by decide)
          · refine own_by (B := T4.setTop (mkF m 66 #[.val (.int i0), .val (.int i1), .val (.int i2), .val (.int (i0 &&& (255 : Int32))), .val (.int (i1 &&& (65535 : Int32))), .val (.ref b1), .val (.ref b3), .unset] [])) (fun t k => XS.icmpYes X4.here hx rfl (pc0 := 59) (pc' := 66) rfl (hb hby at_59) rfl (feq hc59).2 (by decide) (by decide) k) ?_
            refine own_by (B := T4.setTop (mkF m 67 #[.val (.int i0), .val (.int i1), .val (.int i2), .val (.int (i0 &&& (255 : Int32))), .val (.int (i1 &&& (65535 : Int32))), .val (.ref b1), .val (.ref b3), .unset] [(.int (0 : Int32))])) (fun t k => XS.iconst X4.here hx rfl (hb hby at_66) k) ?_
            refine own_by (B := T4.setTop (mkF m 69 #[.val (.int i0), .val (.int i1), .val (.int i2), .val (.int (i0 &&& (255 : Int32))), .val (.int (i1 &&& (65535 : Int32))), .val (.ref b1), .val (.ref b3), .val (.int (0 : Int32))] [])) (fun t k => XS.istore X4.here hx rfl (hb hby at_67) rfl (l' := #[.val (.int i0), .val (.int i1), .val (.int i2), .val (.int (i0 &&& (255 : Int32))), .val (.int (i1 &&& (65535 : Int32))), .val (.ref b1), .val (.ref b3), .val (.int (0 : Int32))]) rfl k) ?_
            refine own_by (B := T4.setTop (mkF m 71 #[.val (.int i0), .val (.int i1), .val (.int i2), .val (.int (i0 &&& (255 : Int32))), .val (.int (i1 &&& (65535 : Int32))), .val (.ref b1), .val (.ref b3), .val (.int (0 : Int32))] [(.ref b3)])) (fun t k => XS.aload X4.here hx rfl (hb hby at_69) rfl rfl k) ?_
            obtain ⟨cq15, kq15, q15a, q15b, q15c⟩ := isOf hZ rfl E_b3
            obtain ⟨_, _, ⟨T15, L15, k15, n15⟩, -, X15, ⟨Lc15, hQ15, l15, y15, z15⟩, st15⟩ := X4.virtualBack hx (y := (⟨"com/example/palaver/palaver/protocol/FlapFrame", "hasKnownType", "()Z"⟩ : MethodName)) (z := (⟨"com/example/palaver/palaver/protocol/FlapFrame", "hasKnownType", "()Z"⟩ : MethodName)) hown (mvT hZ (hw _ (List.mem_of_getElem? (i := 39) rfl))) (mvT hZ (hw _ (List.mem_of_getElem? (i := 40) rfl))) (notFace_of_selects (args := #[]) (mvT hZ (hw _ (List.mem_of_getElem? (i := 42) rfl)))) (mvT hZ (hw _ (List.mem_of_getElem? (i := 42) rfl))) (mvT hZ (hw _ (List.mem_of_getElem? (i := 41) rfl))) (by decide) (backOf (W := 0) (rmK l Z a0 hw [] b3 (i0 &&& (255 : Int32)) T4.heap n0 Zs F_type_b3) hZ (hw _ (List.mem_of_getElem? (i := 43) rfl)) (hw _ (List.mem_of_getElem? (i := 4) rfl)) (by decide) (by decide)) q15a q15c (g := (mkF m 71 #[.val (.int i0), .val (.int i1), .val (.int i2), .val (.int (i0 &&& (255 : Int32))), .val (.int (i1 &&& (65535 : Int32))), .val (.ref b1), .val (.ref b3), .val (.int (0 : Int32))] [(.ref b3)])) rfl (by rw [hml]; rfl) (Steps.refl _) (argsL := []) (rest := []) (lenOf own_pd2 rfl) rfl (by show 2 * 0 + _ ≤ _; exact Nat.le_of_eq rfl) (hb hby at_71) (fun _ _ => ⟨rfl, rfl, (by decide : 5 + 0 ≤ _), (by decide : 69 + 0 ≤ _)⟩)
            dsimp only [Pt.U, Pt.locs, Pt.cells, Pt.slots] at X15 l15 y15 z15 st15 hQ15
            subst l15 y15 z15
            obtain ⟨rfl, Nq15, hp15⟩ := hQ15
            have Nf := Fr.app Nf Nq15
            have ec15 : T15.heap = T4.heap := hp15
            refine own_by (B := T15.setTop (mkF m 74 #[.val (.int i0), .val (.int i1), .val (.int i2), .val (.int (i0 &&& (255 : Int32))), .val (.int (i1 &&& (65535 : Int32))), .val (.ref b1), .val (.ref b3), .val (.int (0 : Int32))] [(.int (own_known (i0 &&& (255 : Int32))))])) (fun t k => st15.trans k) ?_
            refine own_by (B := T15.setTop (mkF m 76 #[.val (.int i0), .val (.int i1), .val (.int i2), .val (.int (i0 &&& (255 : Int32))), .val (.int (i1 &&& (65535 : Int32))), .val (.ref b1), .val (.ref b3), .val (.int (0 : Int32))] [(.int (0 : Int32)), (.int (own_known (i0 &&& (255 : Int32))))])) (fun t k => XS.iload X15.here hx rfl (hb hby at_74) rfl k) ?_
            have hv : own_known (i0 &&& (255 : Int32)) = 0 := own_known_no hc39 hc44 hc49 hc54 hc59
            refine own_by (B := T15.setTop (mkF m 79 #[.val (.int i0), .val (.int i1), .val (.int i2), .val (.int (i0 &&& (255 : Int32))), .val (.int (i1 &&& (65535 : Int32))), .val (.ref b1), .val (.ref b3), .val (.int (0 : Int32))] [])) (fun t k => XS.icmpNo X15.here hx rfl (hb hby at_76) rfl (teq hv).2 k) ?_
            refine own_by (B := T15.setTop (mkF m 81 #[.val (.int i0), .val (.int i1), .val (.int i2), .val (.int (i0 &&& (255 : Int32))), .val (.int (i1 &&& (65535 : Int32))), .val (.ref b1), .val (.ref b3), .val (.int (0 : Int32))] [(.ref b3)])) (fun t k => XS.aload X15.here hx rfl (hb hby at_79) rfl rfl k) ?_
            obtain ⟨cq16, kq16, q16a, q16b, q16c⟩ := isOf hZ ec15 E_b3
            obtain ⟨_, _, ⟨T16, L16, k16, n16⟩, -, X16, ⟨Lc16, hQ16, l16, y16, z16⟩, st16⟩ := X15.virtualBack hx (y := (⟨"com/example/palaver/palaver/protocol/FlapFrame", "type", "()I"⟩ : MethodName)) (z := (⟨"com/example/palaver/palaver/protocol/FlapFrame", "type", "()I"⟩ : MethodName)) hown (mvT hZ (hw _ (List.mem_of_getElem? (i := 44) rfl))) (mvT hZ (hw _ (List.mem_of_getElem? (i := 45) rfl))) (notFace_of_selects (args := #[]) (mvT hZ (hw _ (List.mem_of_getElem? (i := 47) rfl)))) (mvT hZ (hw _ (List.mem_of_getElem? (i := 47) rfl))) (mvT hZ (hw _ (List.mem_of_getElem? (i := 46) rfl))) (by decide) (backOf (W := 0) (rmT l Z a0 hw [] b3 (i0 &&& (255 : Int32)) T4.heap n0 Zs F_type_b3) hZ (hw _ (List.mem_of_getElem? (i := 48) rfl)) (hw _ (List.mem_of_getElem? (i := 4) rfl)) (by decide) (by decide)) q16a q16c (g := (mkF m 81 #[.val (.int i0), .val (.int i1), .val (.int i2), .val (.int (i0 &&& (255 : Int32))), .val (.int (i1 &&& (65535 : Int32))), .val (.ref b1), .val (.ref b3), .val (.int (0 : Int32))] [(.ref b3)])) rfl (by rw [hml]; rfl) (Steps.refl _) (argsL := []) (rest := []) (lenOf own_pd3 rfl) rfl (by show 2 * 0 + _ ≤ _; exact Nat.le_of_eq rfl) (hb hby at_81) (fun _ _ => ⟨rfl, ec15, (by decide : 5 + 0 ≤ _), (by decide : 69 + 0 ≤ _)⟩)
            dsimp only [Pt.U, Pt.locs, Pt.cells, Pt.slots] at X16 l16 y16 z16 st16 hQ16
            subst l16 y16 z16
            obtain ⟨rfl, Nq16, hp16⟩ := hQ16
            have Nf := Fr.app Nf Nq16
            have ec16 : T16.heap = T4.heap := hp16
            refine own_by (B := T16.setTop (mkF m 84 #[.val (.int i0), .val (.int i1), .val (.int i2), .val (.int (i0 &&& (255 : Int32))), .val (.int (i1 &&& (65535 : Int32))), .val (.ref b1), .val (.ref b3), .val (.int (0 : Int32))] [(.int (i0 &&& (255 : Int32)))])) (fun t k => st16.trans k) ?_
            refine own_by (B := T16.setTop (mkF m 85 #[.val (.int i0), .val (.int i1), .val (.int i2), .val (.int (i0 &&& (255 : Int32))), .val (.int (i1 &&& (65535 : Int32))), .val (.ref b1), .val (.ref b3), .val (.int (0 : Int32))] [(.int (i0 &&& (255 : Int32))), (.int (i0 &&& (255 : Int32)))])) (fun t k => XS.iloadN X16.here hx rfl (hb hby at_84) rfl k) ?_
            refine own_by (B := T16.setTop (mkF m 88 #[.val (.int i0), .val (.int i1), .val (.int i2), .val (.int (i0 &&& (255 : Int32))), .val (.int (i1 &&& (65535 : Int32))), .val (.ref b1), .val (.ref b3), .val (.int (0 : Int32))] [])) (fun t k => XS.icmpNo X16.here hx rfl (hb hby at_85) rfl (teq rfl).2 k) ?_
            refine own_by (B := T16.setTop (mkF m 89 #[.val (.int i0), .val (.int i1), .val (.int i2), .val (.int (i0 &&& (255 : Int32))), .val (.int (i1 &&& (65535 : Int32))), .val (.ref b1), .val (.ref b3), .val (.int (0 : Int32))] [(.int (1 : Int32))])) (fun t k => XS.iconst X16.here hx rfl (hb hby at_88) k) ?_
            refine own_by (B := T16.setTop (mkF m 93 #[.val (.int i0), .val (.int i1), .val (.int i2), .val (.int (i0 &&& (255 : Int32))), .val (.int (i1 &&& (65535 : Int32))), .val (.ref b1), .val (.ref b3), .val (.int (0 : Int32))] [(.int (1 : Int32))])) (fun t k => XS.goto X16.here hx rfl (pc0 := 89) (pc' := 93) rfl (hb hby at_89) (by decide) (by decide) k) ?_
            exact own_endW X16 hS (by rw [ec16]; exact Zk) (v := some (.int (1 : Int32))) (fun h => by rw [Bd.returns] at h; cases h) (BodyLoose.notSynchronized Bd) (Q := (Q_rm0 Z i0 i1 i2 h0 n0)) (fun fs hr => retN X16 hx (t := .boolean) Bd.returns (by simp) (hb hby at_93) hr) (show (Q_rm0 Z i0 i1 i2 h0 n0) _ T16.heap _ from (by rw [ec16]; exact ⟨rfl, Nf⟩)) (by decide) (by decide)
set_option maxRecDepth 65536 in
set_option maxHeartbeats 40000000 in
theorem comes_1 {Post : Tables → Env → Array Value → State → Outcome → State → Prop} (hpost : ∀ tb e args s v u, (limb_1_1.after args s (.returned v) u = true ∧ limb_1_2.after args s (.returned v) u = true ∧ True) → ReturnedEndW s (.returned v) u (Jvm.fieldLocs frame_1_writes args s ++ Jvm.arrayLocs frame_1_arrays args s ++ Jvm.staticLocs frame_1_statics s) 16 1152 → Post tb e args s (.returned v) u) :
    ArmFor flags0 classFile x code maxLocals ret World_1 tables_1 room_1 Calls_1 rest_1 Pre_1 Post := by
  intro l hfl _ _ p e ha hc hk s m args below hf hA hF happ hP
  obtain ⟨hcalls, hrest, hpre⟩ := hP
  obtain ⟨-, -, -, hnamed, -, -, -, hat⟩ := (Spec.applies_iff hf).mp happ
  obtain ⟨hg, hn⟩ := and_e (Cond.before_iff.mp (show (Jvm.Cond.and given_1 narrow_1).before args s = true from hpre))
  obtain ⟨hcount, hg0⟩ := and_e hg
  obtain ⟨hv0, hg1⟩ := and_e hg0
  obtain ⟨hv1, hg2⟩ := and_e hg1
  have hv2 := hg2
  obtain ⟨w0, w1, w2, rfl⟩ : ∃ w0 w1 w2 : Value, args = #[w0, w1, w2] := by
    have hs : args.size = 3 := by simpa [Cond.value, given_1] using hcount
    obtain ⟨L⟩ := args
    match L, hs with
    | [w0, w1, w2], _ => exact ⟨w0, w1, w2, rfl⟩
  have hw := fun d (hd : d ∈ tables_1) => atoms_spec (ws := Jvm.Cond.code x code maxLocals ret :: tables_1) hat d (List.mem_cons_of_mem _ hd)
  have hfit : Fit s := fun {y c} hc i hi => by
    obtain ⟨ha, rfl⟩ := Array.getElem?_eq_some_iff.mp hc
    have q := List.all_eq_true.mp ((Array.all_eq_true_iff_forall_mem.mp hF) _ (Array.getElem_mem ha)) i (List.mem_range.mpr hi)
    simpa [Array.getElem?_eq_getElem hi] using q
  obtain ⟨i0, ei0⟩ := is_v hv0
  obtain rfl : w0 = (.int i0) := Option.some.inj ei0
  obtain ⟨i1, ei1⟩ := is_v hv1
  obtain rfl : w1 = (.int i1) := Option.some.inj ei1
  obtain ⟨i2, ei2⟩ := is_v hv2
  obtain rfl : w2 = (.int i2) := Option.some.inj ei2
  obtain ⟨n, o, h1, h2, h3, _, L, rfl, ⟨rfl, N⟩, hq⟩ := rm0 l s _ hw tables_1 i0 i1 i2 s.heap s.heap.size (Nat.le_refl _)  p e ha hc hk s m _ below hf ((Spec.applies_iff_loose hf).mp happ).1 ⟨rfl, State.Warmed39.refl s, rfl⟩ trivial
  refine ⟨n, _, h1, h2, h3, hpost _ _ _ _ _ _ ⟨Cond.after_iff.mpr rfl, Cond.after_iff.mpr (eq_i res_at (Term.int_eval (1)) rfl), trivial⟩ ⟨hq.1, hq.2.1, hq.2.2.1, (hq.2.2.2.sift fun y hy => Or.inr (N y hy)).mono (by decide) (by decide)⟩⟩
theorem main_1_1 : Claimed_1_1 := comes_1 fun _ _ _ _ _ _ h hF => ⟨h.1, hF⟩
theorem main_1_2 : Claimed_1_2 := comes_1 fun _ _ _ _ _ _ h hF => ⟨h.2.1, hF⟩
end Jvm.Pilot.@@N@@
namespace Jvm.Pilot.@@N@@
open Jvm Jvm.ClassFile Sem Op Lib Jvm.Free Jvm.Stand Jvm.Pilot.@@N@@.Jvm.D
/-! MADE BY PROGRAM (witnessworld.py) out of the Statement's table words and the real class files: 15 classes; the members and pool entries that the words name. The judged class is class 1, her method 1. -/
namespace start1
open Jvm.ClassFile
def u (s : String) : CpInfo := .utf8 (stringToUtf16 s)
/-- a pool by its gaps: so many unusable entries, then the entry; so many at the end -/
def gap : Nat → List CpInfo → List CpInfo
  | 0, r => r
  | n + 1, r => .unusable :: gap n r
def poolList (es : List (Nat × CpInfo)) (last : Nat) : List CpInfo := es.foldr (fun e r => gap e.1 (e.2 :: r)) (gap last [])
def pool (es : List (Nat × CpInfo)) (last : Nat) : Array CpInfo := ⟨poolList es last⟩
def fileOf (pool : Array CpInfo) (this : Nat) (attrs : Array Attribute := #[]) (ms : Array MethodInfo := #[]) (fl : Nat := 33) (sup : Nat := 0) (ifs : Array Nat := #[]) (fds : Array FieldInfo := #[]) : ClassFile where
  minorVersion := 0
  majorVersion := 65
  constantPool := pool
  accessFlags := fl
  thisClass := this
  superClass := sup
  interfaces := ifs
  fields := fds
  methods := ms
  attributes := attrs
def plain (name : String) (sup : Option ClassId) : Class where
  name := name
  kind := .ordinary
  loader := none
  accessFlags := 33
  super := sup
  interfaces := #[]
  cf := none
  fields := #[]
  methods := #[]
  instanceTypes := #[]
  staticTypes := #[]
  resolved := #[]
  callSites := []
  init := .initialized
  statics := none
  mirror := none

def pool0 : Array CpInfo := pool [(5, u "<init>"), (0, u "()V"), (1, .class_ 10), (1, u "java/lang/Object"), (85, u "clone"), (0, u "()Ljava/lang/Object;")] 26

def k0c0 : Code := { maxStack := 0, maxLocals := 1, code := object_method_1_code, exceptionTable := #[], attributes := #[] }
def k0m0 : Method := { name := "<init>", desc := "()V", sig := { parameters := [], returnType := none }, accessFlags := 1, code := some k0c0 }
def k0m1 : Method := { name := "clone", desc := "()Ljava/lang/Object;", sig := { parameters := [], returnType := some (.object "java/lang/Object") }, accessFlags := 260, code := none }
/-- java/lang/Object -/
def k0 : Class := { plain "java/lang/Object" none with
  accessFlags := 33
  interfaces := #[]
  cf := some (fileOf pool0 8 #[] #[{ accessFlags := 1, nameIndex := 5, descriptorIndex := 6, attributes := #[] }, { accessFlags := 260, nameIndex := 96, descriptorIndex := 97, attributes := #[] }] 33 0 #[] #[])
  fields := #[]
  methods := #[k0m0, k0m1]
  instanceTypes := #[]
  staticTypes := #[]
  resolved := Array.replicate 124 none
  statics := none }

def pool1 : Array CpInfo := pool [(2, .class_ 4), (1, u "java/lang/Object"), (0, u "<init>"), (0, u "()V"), (0, .integer 65535), (0, .class_ 9), (0, u "com/example/palaver/palaver/protocol/FlapFrame"), (0, .methodref 8 11), (0, .nameAndType 5 12), (0, u "(II[B)V"), (0, .methodref 8 14), (0, .nameAndType 15 16), (0, u "hasKnownType"), (0, u "()Z"), (0, .methodref 8 18), (0, .nameAndType 19 20), (0, u "type"), (0, u "()I"), (0, .class_ 22), (0, u "com/example/palaver/palaver/protocol/FlapFrameHasKnownTypePinLaw"), (2, u "law"), (0, u "(III)Z")] 5

def k1m0 : Method := { name := "<init>", desc := "()V", sig := { parameters := [], returnType := none }, accessFlags := 1, code := none }
def k1c1 : Code := { maxStack := 5, maxLocals := 8, code := code, exceptionTable := #[], attributes := #[] }
def k1m1 : Method := { name := "law", desc := "(III)Z", sig := { parameters := [.int, .int, .int], returnType := some .boolean }, accessFlags := 9, code := some k1c1 }
/-- com/example/palaver/palaver/protocol/FlapFrameHasKnownTypePinLaw -/
def k1 : Class := { plain "com/example/palaver/palaver/protocol/FlapFrameHasKnownTypePinLaw" (some 0) with
  accessFlags := 49
  interfaces := #[]
  cf := some (fileOf pool1 21 #[] #[{ accessFlags := 1, nameIndex := 5, descriptorIndex := 6, attributes := #[] }, { accessFlags := 9, nameIndex := 25, descriptorIndex := 26, attributes := #[] }] 49 2 #[] #[])
  fields := #[]
  methods := #[k1m0, k1m1]
  instanceTypes := #[]
  staticTypes := #[]
  resolved := Array.replicate 32 none
  statics := none }

def pool2 : Array CpInfo := pool [(1, .methodref 2 3), (0, .class_ 4), (0, .nameAndType 5 6), (0, u "java/lang/Object"), (0, u "<init>"), (0, u "()V"), (0, .class_ 8), (0, u "com/example/palaver/palaver/protocol/FlapFrame"), (9, .string 19), (0, u "sequence number"), (0, .methodref 21 22), (0, .class_ 23), (0, .nameAndType 24 25), (0, u "com/example/palaver/palaver/protocol/Bytes"), (0, u "requireU16"), (0, u "(ILjava/lang/String;)V"), (0, .integer 65535), (1, .fieldref 7 29), (0, .nameAndType 30 31), (0, u "type"), (0, u "I"), (0, .fieldref 7 33), (0, .nameAndType 34 31), (0, u "sequence"), (0, .methodref 36 37), (0, .class_ 38), (0, .nameAndType 39 40), (0, u "[B"), (0, u "clone"), (0, u "()Ljava/lang/Object;"), (0, .fieldref 7 42), (0, .nameAndType 43 38), (0, u "payload"), (5, u "()I"), (49, u "()Z"), (13, u "(II[B)V"), (50, u "MARKER"), (2, u "HEADER_LENGTH"), (1, u "SIGN_ON"), (1, u "DATA"), (1, u "ERROR"), (1, u "SIGN_OFF"), (1, u "KEEP_ALIVE"), (1, u "MAX_TYPE"), (1, u "MAX_SEQUENCE"), (0, u "MAX_PAYLOAD_LENGTH"), (0, u "LENGTH_OFFSET"), (10, u "hasKnownType")] 23

def k2c0 : Code := { maxStack := 3, maxLocals := 4, code := prog_46_method_1_code, exceptionTable := #[], attributes := #[] }
def k2m0 : Method := { name := "<init>", desc := "(II[B)V", sig := { parameters := [.int, .int, (.array .byte)], returnType := none }, accessFlags := 1, code := some k2c0 }
def k2c1 : Code := { maxStack := 1, maxLocals := 1, code := prog_46_method_7_code, exceptionTable := #[], attributes := #[] }
def k2m1 : Method := { name := "type", desc := "()I", sig := { parameters := [], returnType := some .int }, accessFlags := 1, code := some k2c1 }
def k2c2 : Code := { maxStack := 2, maxLocals := 1, code := prog_46_method_8_code, exceptionTable := #[], attributes := #[] }
def k2m2 : Method := { name := "hasKnownType", desc := "()Z", sig := { parameters := [], returnType := some .boolean }, accessFlags := 1, code := some k2c2 }
/-- com/example/palaver/palaver/protocol/FlapFrame -/
def k2 : Class := { plain "com/example/palaver/palaver/protocol/FlapFrame" (some 0) with
  accessFlags := 49
  interfaces := #[]
  cf := some (fileOf pool2 7 #[] #[{ accessFlags := 1, nameIndex := 5, descriptorIndex := 113, attributes := #[] }, { accessFlags := 1, nameIndex := 30, descriptorIndex := 49, attributes := #[] }, { accessFlags := 1, nameIndex := 194, descriptorIndex := 99, attributes := #[] }] 49 2 #[] #[{ accessFlags := 25, nameIndex := 164, descriptorIndex := 31, attributes := #[] }, { accessFlags := 25, nameIndex := 167, descriptorIndex := 31, attributes := #[] }, { accessFlags := 25, nameIndex := 169, descriptorIndex := 31, attributes := #[] }, { accessFlags := 25, nameIndex := 171, descriptorIndex := 31, attributes := #[] }, { accessFlags := 25, nameIndex := 173, descriptorIndex := 31, attributes := #[] }, { accessFlags := 25, nameIndex := 175, descriptorIndex := 31, attributes := #[] }, { accessFlags := 25, nameIndex := 177, descriptorIndex := 31, attributes := #[] }, { accessFlags := 25, nameIndex := 179, descriptorIndex := 31, attributes := #[] }, { accessFlags := 25, nameIndex := 181, descriptorIndex := 31, attributes := #[] }, { accessFlags := 25, nameIndex := 182, descriptorIndex := 31, attributes := #[] }, { accessFlags := 26, nameIndex := 183, descriptorIndex := 31, attributes := #[] }, { accessFlags := 18, nameIndex := 30, descriptorIndex := 31, attributes := #[] }, { accessFlags := 18, nameIndex := 34, descriptorIndex := 31, attributes := #[] }, { accessFlags := 18, nameIndex := 43, descriptorIndex := 38, attributes := #[] }])
  fields := #[{ name := "MARKER", type := .int, accessFlags := 25, slot := 0, constantValue := 0 }, { name := "HEADER_LENGTH", type := .int, accessFlags := 25, slot := 1, constantValue := 0 }, { name := "SIGN_ON", type := .int, accessFlags := 25, slot := 2, constantValue := 0 }, { name := "DATA", type := .int, accessFlags := 25, slot := 3, constantValue := 0 }, { name := "ERROR", type := .int, accessFlags := 25, slot := 4, constantValue := 0 }, { name := "SIGN_OFF", type := .int, accessFlags := 25, slot := 5, constantValue := 0 }, { name := "KEEP_ALIVE", type := .int, accessFlags := 25, slot := 6, constantValue := 0 }, { name := "MAX_TYPE", type := .int, accessFlags := 25, slot := 7, constantValue := 0 }, { name := "MAX_SEQUENCE", type := .int, accessFlags := 25, slot := 8, constantValue := 0 }, { name := "MAX_PAYLOAD_LENGTH", type := .int, accessFlags := 25, slot := 9, constantValue := 0 }, { name := "LENGTH_OFFSET", type := .int, accessFlags := 26, slot := 10, constantValue := 0 }, { name := "type", type := .int, accessFlags := 18, slot := 0, constantValue := 0 }, { name := "sequence", type := .int, accessFlags := 18, slot := 1, constantValue := 0 }, { name := "payload", type := (.array .byte), accessFlags := 18, slot := 2, constantValue := 0 }]
  methods := #[k2m0, k2m1, k2m2]
  instanceTypes := #[.int, .int, (.array .byte)]
  staticTypes := #[.int, .int, .int, .int, .int, .int, .int, .int, .int, .int, .int]
  resolved := Array.replicate 218 none
  statics := none }

def pool3 : Array CpInfo := pool [(1, .class_ 2), (0, u "java/io/Serializable"), (0, .class_ 4), (0, u "java/lang/Object")] 2

/-- java/io/Serializable -/
def k3 : Class := { plain "java/io/Serializable" (some 0) with
  accessFlags := 1537
  interfaces := #[]
  cf := some (fileOf pool3 1 #[] #[] 1537 3 #[] #[])
  fields := #[]
  methods := #[]
  instanceTypes := #[]
  staticTypes := #[]
  resolved := Array.replicate 7 none
  statics := none }

def pool4 : Array CpInfo := pool [(1, .class_ 2), (0, u "java/lang/Comparable"), (0, .class_ 4), (0, u "java/lang/Object")] 7

/-- java/lang/Comparable -/
def k4 : Class := { plain "java/lang/Comparable" (some 0) with
  accessFlags := 1537
  interfaces := #[]
  cf := some (fileOf pool4 1 #[] #[] 1537 3 #[] #[])
  fields := #[]
  methods := #[]
  instanceTypes := #[]
  staticTypes := #[]
  resolved := Array.replicate 12 none
  statics := none }

def pool5 : Array CpInfo := pool [(2, .class_ 4), (1, u "java/lang/CharSequence"), (42, .class_ 48), (0, u "java/lang/CharSequence$1CodePointIterator"), (10, .class_ 60), (0, u "java/lang/CharSequence$1CharIterator"), (5, .class_ 67), (0, u "java/lang/Object")] 63

/-- java/lang/CharSequence -/
def k5 : Class := { plain "java/lang/CharSequence" (some 0) with
  accessFlags := 1537
  interfaces := #[]
  cf := some (fileOf pool5 2 #[.nestMembers #[47, 59]] #[] 1537 66 #[] #[])
  fields := #[]
  methods := #[]
  instanceTypes := #[]
  staticTypes := #[]
  resolved := Array.replicate 131 none
  statics := none }

def pool6 : Array CpInfo := pool [(1, .class_ 2), (0, u "java/lang/constant/Constable"), (0, .class_ 4), (0, u "java/lang/Object")] 6

/-- java/lang/constant/Constable -/
def k6 : Class := { plain "java/lang/constant/Constable" (some 0) with
  accessFlags := 1537
  interfaces := #[]
  cf := some (fileOf pool6 1 #[] #[] 1537 3 #[] #[])
  fields := #[]
  methods := #[]
  instanceTypes := #[]
  staticTypes := #[]
  resolved := Array.replicate 11 none
  statics := none }

def pool7 : Array CpInfo := pool [(1, .class_ 2), (0, u "java/lang/constant/ConstantDesc"), (0, .class_ 4), (0, u "java/lang/Object")] 32

/-- java/lang/constant/ConstantDesc -/
def k7 : Class := { plain "java/lang/constant/ConstantDesc" (some 0) with
  accessFlags := 1537
  interfaces := #[]
  cf := some (fileOf pool7 1 #[] #[] 1537 3 #[] #[])
  fields := #[]
  methods := #[]
  instanceTypes := #[]
  staticTypes := #[]
  resolved := Array.replicate 37 none
  statics := none }

def pool8 : Array CpInfo := pool [(2, .class_ 4), (1, u "java/lang/Object"), (0, u "<init>"), (0, u "()V"), (3, .class_ 12), (1, u "java/lang/String"), (0, u "value"), (0, u "[B"), (2, u "coder"), (0, u "B"), (2, u "hash"), (0, u "I"), (2, u "hashIsZero"), (0, u "Z"), (13, u "COMPACT_STRINGS"), (534, .class_ 576), (0, u "java/lang/CharSequence"), (22, u "CASE_INSENSITIVE_ORDER"), (0, u "Ljava/util/Comparator;"), (500, u "serialPersistentFields"), (0, u "[Ljava/io/ObjectStreamField;"), (0, .class_ 1104), (0, u "java/lang/String$CaseInsensitiveComparator"), (1, .class_ 1107), (0, u "java/io/Serializable"), (0, .class_ 1109), (0, u "java/lang/Comparable"), (0, .class_ 1111), (0, u "java/lang/constant/Constable"), (0, .class_ 1113), (0, u "java/lang/constant/ConstantDesc"), (2, u "serialVersionUID"), (0, u "J"), (3, u "REPL"), (0, u "C"), (2, u "LATIN1"), (1, u "UTF16")] 323

def k8m0 : Method := { name := "<init>", desc := "()V", sig := { parameters := [], returnType := none }, accessFlags := 1, code := none }
/-- java/lang/String -/
def k8 : Class := { plain "java/lang/String" (some 0) with
  accessFlags := 49
  interfaces := #[3, 4, 5, 6, 7]
  cf := some (fileOf pool8 10 #[.nestMembers #[1103]] #[{ accessFlags := 1, nameIndex := 5, descriptorIndex := 6, attributes := #[] }] 49 2 #[1106, 1108, 575, 1110, 1112] #[{ accessFlags := 18, nameIndex := 13, descriptorIndex := 14, attributes := #[] }, { accessFlags := 18, nameIndex := 17, descriptorIndex := 18, attributes := #[] }, { accessFlags := 2, nameIndex := 21, descriptorIndex := 22, attributes := #[] }, { accessFlags := 2, nameIndex := 25, descriptorIndex := 26, attributes := #[] }, { accessFlags := 26, nameIndex := 1116, descriptorIndex := 1117, attributes := #[] }, { accessFlags := 24, nameIndex := 40, descriptorIndex := 26, attributes := #[] }, { accessFlags := 26, nameIndex := 1101, descriptorIndex := 1102, attributes := #[] }, { accessFlags := 26, nameIndex := 1121, descriptorIndex := 1122, attributes := #[] }, { accessFlags := 25, nameIndex := 599, descriptorIndex := 600, attributes := #[] }, { accessFlags := 24, nameIndex := 1125, descriptorIndex := 18, attributes := #[] }, { accessFlags := 24, nameIndex := 1127, descriptorIndex := 18, attributes := #[] }])
  fields := #[{ name := "value", type := (.array .byte), accessFlags := 18, slot := 0, constantValue := 0 }, { name := "coder", type := .byte, accessFlags := 18, slot := 1, constantValue := 0 }, { name := "hash", type := .int, accessFlags := 2, slot := 2, constantValue := 0 }, { name := "hashIsZero", type := .boolean, accessFlags := 2, slot := 3, constantValue := 0 }, { name := "serialVersionUID", type := .long, accessFlags := 26, slot := 0, constantValue := 0 }, { name := "COMPACT_STRINGS", type := .boolean, accessFlags := 24, slot := 1, constantValue := 0 }, { name := "serialPersistentFields", type := (.array (.object "java/io/ObjectStreamField")), accessFlags := 26, slot := 2, constantValue := 0 }, { name := "REPL", type := .char, accessFlags := 26, slot := 3, constantValue := 0 }, { name := "CASE_INSENSITIVE_ORDER", type := (.object "java/util/Comparator"), accessFlags := 25, slot := 4, constantValue := 0 }, { name := "LATIN1", type := .byte, accessFlags := 24, slot := 5, constantValue := 0 }, { name := "UTF16", type := .byte, accessFlags := 24, slot := 6, constantValue := 0 }]
  methods := #[k8m0]
  instanceTypes := #[(.array .byte), .byte, .int, .boolean]
  staticTypes := #[.long, .boolean, (.array (.object "java/io/ObjectStreamField")), .char, (.object "java/util/Comparator"), .byte, .byte]
  resolved := Array.replicate 1451 none
  statics := none }

def pool9 : Array CpInfo := pool [(2, .class_ 4), (1, u "java/lang/Object"), (0, u "<init>"), (0, u "()V"), (0, .class_ 8), (0, u "com/example/palaver/palaver/protocol/Bytes"), (0, .integer 65535), (86, u "MAX_U16"), (0, u "I"), (1, u "MAX_U32"), (0, u "J"), (2, u "requireU16"), (0, u "(ILjava/lang/String;)V")] 33

def k9m0 : Method := { name := "<init>", desc := "()V", sig := { parameters := [], returnType := none }, accessFlags := 2, code := none }
def k9c1 : Code := { maxStack := 4, maxLocals := 2, code := prog_45_method_2_code, exceptionTable := #[], attributes := #[] }
def k9m1 : Method := { name := "requireU16", desc := "(ILjava/lang/String;)V", sig := { parameters := [.int, (.object "java/lang/String")], returnType := none }, accessFlags := 8, code := some k9c1 }
/-- com/example/palaver/palaver/protocol/Bytes -/
def k9 : Class := { plain "com/example/palaver/palaver/protocol/Bytes" (some 0) with
  accessFlags := 48
  interfaces := #[]
  cf := some (fileOf pool9 7 #[] #[{ accessFlags := 2, nameIndex := 5, descriptorIndex := 6, attributes := #[] }, { accessFlags := 8, nameIndex := 103, descriptorIndex := 104, attributes := #[] }] 48 2 #[] #[{ accessFlags := 26, nameIndex := 96, descriptorIndex := 97, attributes := #[] }, { accessFlags := 26, nameIndex := 99, descriptorIndex := 100, attributes := #[] }])
  fields := #[{ name := "MAX_U16", type := .int, accessFlags := 26, slot := 0, constantValue := 0 }, { name := "MAX_U32", type := .long, accessFlags := 26, slot := 1, constantValue := 0 }]
  methods := #[k9m0, k9m1]
  instanceTypes := #[]
  staticTypes := #[.int, .long]
  resolved := Array.replicate 138 none
  statics := none }

def pool10 : Array CpInfo := pool [(1, .class_ 2), (0, u "java/lang/Cloneable"), (0, .class_ 4), (0, u "java/lang/Object")] 2

/-- java/lang/Cloneable -/
def k10 : Class := { plain "java/lang/Cloneable" (some 0) with
  accessFlags := 1537
  interfaces := #[]
  cf := some (fileOf pool10 1 #[] #[] 1537 3 #[] #[])
  fields := #[]
  methods := #[]
  instanceTypes := #[]
  staticTypes := #[]
  resolved := Array.replicate 7 none
  statics := none }

/-- the primitive byte -/
def k11 : Class := { plain "byte" none with kind := .primitive 'B', accessFlags := 0x411 }
/-- [B -/
def k12 : Class := { plain "[B" (some 0) with kind := .array 11 .byte, interfaces := #[10, 3], accessFlags := 1041 }

/-- the primitive int -/
def k13 : Class := { plain "int" none with kind := .primitive 'I', accessFlags := 0x411 }
/-- [I -/
def k14 : Class := { plain "[I" (some 0) with kind := .array 13 .int, interfaces := #[10, 3], accessFlags := 1041 }

def heap : Heap := #[]
def classes : Array Class := #[k0, k1, k2, k3, k4, k5, k6, k7, k8, k9, k10, k11, k12, k13, k14]
def interned : List (Array UInt16 × Addr) := []
def slotsUsed : Nat := 0
def theMethod : MethodId := ⟨1, 1⟩
def args0 : Array Value := #[.int 2, .int 3, .int 4]
def aboutOver (below : List Frame) : State where
  vm := { classes := classes, interned := interned.toArray }
  heap := heap
  slotsUsed := slotsUsed
  threads := #[{ frames := .invoking theMethod args0 :: below }]
def below0 : List Frame := [.native { method := ⟨0, 0⟩, args := #[] }]
def about1 : State := aboutOver below0
def p0 : Program := .bare "" "" ""
def e0 : Env := launch0.env 0 0 0
theorem w_frames : about1.frames = Frame.invoking theMethod args0 :: below0 := rfl
set_option maxRecDepth 65536 in
theorem w_args : argsFit about1.vm theMethod args0 = true := by decide +kernel
set_option maxRecDepth 65536 in
theorem w_heap : heapFits about1 = true := by decide +kernel
set_option maxRecDepth 65536 in
theorem w_runnable : about1.curStatus? = some .runnable := by decide +kernel
set_option maxRecDepth 65536 in
theorem w_alone : about1.alone = true := by decide +kernel
set_option maxRecDepth 65536 in
theorem w_named : about1.methodNamed? x = some theMethod := by decide +kernel
set_option maxRecDepth 65536 in
theorem w_hears : about1.hears theMethod below0 = true := by decide +kernel
set_option maxRecDepth 65536 in
theorem w_ripe : about1.ripe theMethod args0 below0 = true := by decide +kernel
theorem w_running : about1.status = .running := rfl
set_option maxRecDepth 65536 in
theorem w_room : about1.hasRoom e0.platform room_1 = true :=
  launch0.hasRoom_least _ room_1 (by decide +kernel) (by decide +kernel) (by decide +kernel) (by decide +kernel) (by decide +kernel) (by decide +kernel)
theorem allAtoms_all (ts : List Jvm.Cond) (a : Array Jvm.Value) (st : Jvm.State) : (allAtoms ts).before a st = ts.all (fun c => c.before a st) := by
  induction ts with
  | nil => rfl
  | cons c t ih =>
    show (Jvm.Cond.and c (allAtoms t)).before a st = _
    rw [Jvm.Cond.before_and, ih, List.all_cons]
def words1 : List Jvm.Cond := Jvm.Cond.code x code maxLocals ret :: tables_1
/-- a 'code' word, met by the world's own term for the bytes: nothing is compared byte by byte -/
theorem code_word {y : MethodName} {bytes : ByteArray} {mx : Nat} {rt : Option FieldType} {a : Array Value} {s : State} {m : MethodId} {meth : Method} {c : Code} (h1 : s.methodNamed? y = some m) (h2 : s.vm.method? m = some meth) (h3 : meth.code = some c) (h4 : c.code = bytes)
    (h5 : (c.maxLocals == mx && c.exceptionTable.isEmpty && decide (c.maxStack ≤ mostOperands) && decide (meth.sig.returnType = rt) && !meth.locks && decide (parseMethodDescriptor y.desc = some meth.sig)) = true) : (Jvm.Cond.code y bytes mx rt).before a s = true := by
  simp only [Bool.and_eq_true, beq_iff_eq, Bool.not_eq_true', decide_eq_true_eq] at h5
  obtain ⟨⟨⟨⟨⟨g1, g2⟩, g3⟩, g4⟩, g5⟩, g6⟩ := h5
  simp [Cond.before, Cond.holds, Cond.value, h1, h2, h3, h4, g1, g2, g3, g4, g5, g6]
def isCode : Jvm.Cond → Bool
  | .code _ _ _ _ => true
  | _ => false
theorem all_split {L : List Jvm.Cond} {P : Jvm.Cond → Bool} (h1 : L.all (fun c => isCode c || P c) = true) (h2 : ∀ c ∈ L.filter isCode, P c = true) : L.all P = true := by
  refine List.all_eq_true.mpr fun c hc => ?_
  have h := List.all_eq_true.mp h1 c hc
  rcases Bool.eq_false_or_eq_true (isCode c) with hi | hi
  · exact h2 c (List.mem_filter.mpr ⟨hc, hi⟩)
  · simpa [hi] using h
set_option maxRecDepth 65536 in
theorem w_c0 : (Jvm.Cond.code x code maxLocals ret).before args0 about1 = true := code_word (m := ⟨1, 1⟩) (meth := k1m1) (c := k1c1) (by decide +kernel) rfl rfl rfl (by decide +kernel)
set_option maxRecDepth 65536 in
theorem w_c1 : (Jvm.Cond.code ({ cls := "com/example/palaver/palaver/protocol/FlapFrame", name := "<init>", desc := "(II[B)V" } : Jvm.MethodName) prog_46_method_1_code (4 : Nat) (Option.none : Option Jvm.ClassFile.FieldType)).before args0 about1 = true := code_word (m := ⟨2, 0⟩) (meth := k2m0) (c := k2c0) (by decide +kernel) rfl rfl rfl (by decide +kernel)
set_option maxRecDepth 65536 in
theorem w_c2 : (Jvm.Cond.code ({ cls := "java/lang/Object", name := "<init>", desc := "()V" } : Jvm.MethodName) object_method_1_code (1 : Nat) (Option.none : Option Jvm.ClassFile.FieldType)).before args0 about1 = true := code_word (m := ⟨0, 0⟩) (meth := k0m0) (c := k0c0) (by decide +kernel) rfl rfl rfl (by decide +kernel)
set_option maxRecDepth 65536 in
theorem w_c3 : (Jvm.Cond.code ({ cls := "com/example/palaver/palaver/protocol/Bytes", name := "requireU16", desc := "(ILjava/lang/String;)V" } : Jvm.MethodName) prog_45_method_2_code (2 : Nat) (Option.none : Option Jvm.ClassFile.FieldType)).before args0 about1 = true := code_word (m := ⟨9, 1⟩) (meth := k9m1) (c := k9c1) (by decide +kernel) rfl rfl rfl (by decide +kernel)
set_option maxRecDepth 65536 in
theorem w_c4 : (Jvm.Cond.code ({ cls := "com/example/palaver/palaver/protocol/FlapFrame", name := "hasKnownType", desc := "()Z" } : Jvm.MethodName) prog_46_method_8_code (1 : Nat) (Option.some Jvm.ClassFile.FieldType.boolean)).before args0 about1 = true := code_word (m := ⟨2, 2⟩) (meth := k2m2) (c := k2c2) (by decide +kernel) rfl rfl rfl (by decide +kernel)
set_option maxRecDepth 65536 in
theorem w_c5 : (Jvm.Cond.code ({ cls := "com/example/palaver/palaver/protocol/FlapFrame", name := "type", desc := "()I" } : Jvm.MethodName) prog_46_method_7_code (1 : Nat) (Option.some Jvm.ClassFile.FieldType.int)).before args0 about1 = true := code_word (m := ⟨2, 1⟩) (meth := k2m1) (c := k2c1) (by decide +kernel) rfl rfl rfl (by decide +kernel)
def codes1 : List Jvm.Cond := [Jvm.Cond.code x code maxLocals ret, Jvm.Cond.code ({ cls := "com/example/palaver/palaver/protocol/FlapFrame", name := "<init>", desc := "(II[B)V" } : Jvm.MethodName) prog_46_method_1_code (4 : Nat) (Option.none : Option Jvm.ClassFile.FieldType), Jvm.Cond.code ({ cls := "java/lang/Object", name := "<init>", desc := "()V" } : Jvm.MethodName) object_method_1_code (1 : Nat) (Option.none : Option Jvm.ClassFile.FieldType), Jvm.Cond.code ({ cls := "com/example/palaver/palaver/protocol/Bytes", name := "requireU16", desc := "(ILjava/lang/String;)V" } : Jvm.MethodName) prog_45_method_2_code (2 : Nat) (Option.none : Option Jvm.ClassFile.FieldType), Jvm.Cond.code ({ cls := "com/example/palaver/palaver/protocol/FlapFrame", name := "hasKnownType", desc := "()Z" } : Jvm.MethodName) prog_46_method_8_code (1 : Nat) (Option.some Jvm.ClassFile.FieldType.boolean), Jvm.Cond.code ({ cls := "com/example/palaver/palaver/protocol/FlapFrame", name := "type", desc := "()I" } : Jvm.MethodName) prog_46_method_7_code (1 : Nat) (Option.some Jvm.ClassFile.FieldType.int)]
set_option maxRecDepth 65536 in
theorem codes_eq : words1.filter isCode = codes1 := rfl
theorem w_codes : ∀ c ∈ words1.filter isCode, c.before args0 about1 = true := by
  rw [codes_eq]
  intro c hc
  simp only [codes1, List.mem_cons, List.not_mem_nil, or_false] at hc
  rcases hc with rfl | rfl | rfl | rfl | rfl | rfl
  · exact w_c0
  · exact w_c1
  · exact w_c2
  · exact w_c3
  · exact w_c4
  · exact w_c5
set_option maxRecDepth 65536 in
theorem w_t1 : (words1.take 24).all (fun c => isCode c || c.before args0 about1) = true := by decide +kernel
set_option maxRecDepth 65536 in
theorem w_t2 : ((words1.drop 24).take 24).all (fun c => isCode c || c.before args0 about1) = true := by decide +kernel
set_option maxRecDepth 65536 in
theorem w_t3 : ((words1.drop 24).drop 24).all (fun c => isCode c || c.before args0 about1) = true := by decide +kernel
theorem w_tables : (allAtoms (Jvm.Cond.code x code maxLocals ret :: tables_1)).before args0 about1 = true := by
  rw [allAtoms_all]
  show words1.all (fun c => c.before args0 about1) = true
  refine all_split ?_ w_codes
  rw [← List.take_append_drop 24 words1, List.all_append, w_t1, ← List.take_append_drop 24 (words1.drop 24), List.all_append, w_t2, w_t3]
  rfl
set_option maxRecDepth 65536 in
theorem w_case : (Jvm.Cond.and given_1 narrow_1).before args0 about1 = true := by decide +kernel
theorem w_applies : (headSpec (Jvm.Cond.code x code maxLocals ret :: tables_1) room_1).applies x e0.platform about1 = true :=
  (Spec.applies_iff w_frames).mpr ⟨w_running, w_runnable, w_alone, w_named, w_hears, w_ripe, w_room, w_tables⟩
theorem atStart : AtStart classFile x code maxLocals ret World_1 tables_1 room_1 Calls_1 rest_1 Pre_1 launch0 p0 e0 about1 theMethod args0 below0 :=
  ⟨lists_1, trivial, launch0.admits_env _ _ _, launch0.least_env, fairChoices_fair.cas, fairChoices_fair.clock, w_frames, w_args, w_heap, w_applies, trivial, trivial, w_case⟩
end start1
theorem witness_1 : WitnessClaimed_1 := ⟨start1.p0, start1.e0, start1.about1, start1.theMethod, start1.args0, start1.below0, start1.atStart⟩
end Jvm.Pilot.@@N@@
