import JvmDerived
import JvmDerived.Pilot.@@N@@Statement
import JvmDerived.Pilot.@@N@@Code
set_option linter.unusedVariables false
set_option linter.unusedSimpArgs false
namespace Jvm.RoadKit
open Sem ClassFile Op Lib Jvm.Stand Jvm.Free Jvm.LawKit
section New
variable {p : Program} {l : Launch} {e : Env} {R : Room} {s : State} {m : MethodId} {args : Array Value} {below : List Frame} {meth : Method} {c : Code} {T : State} {locs : List Loc} {cells slots : Nat}
theorem retI (X : Stand p l e R s m args below meth c T locs cells slots) (hx : p.tables.exec = Jvm.exec) {pc : Nat} {Ls : Array Slot} {z : Int32} {rest : List Value} (hret : meth.sig.returnType = some .int) (hd : decode c.code pc = .ok (.ireturn, 1)) {fs : List Frame}
    (hl : ∀ (f : JFrame) (acts : List Action), f.method = m → f.locked = none → f.entered = [] → (doReturn e (T.setTop f) acts (some (.int z))).1 = T.setFrames fs) : Steps p.tables e below (T.setTop (mkF m pc Ls (.int z :: rest))) (T.setFrames fs) := by
  have hm' : T.vm.method? m = some meth := X.method'
  have hn : narrow .int (.int z) = .int z := rfl
  show Steps p.tables e below (T.setTop { method := m, pc := pc, locals := Ls, stack := _ :: rest, locked := none }) _
  jvm_step X.here [X.here.top, hx, hd, hm', hret, hn]
  first | (intro acts; rw [hl _ acts rfl rfl rfl]) | rw [hl _ _ rfl rfl rfl]
  exact Steps.refl _
/-- the list of places that a walk has written, made a variable -/
theorem own_hide (X : Stand p l e R s m args below meth c T locs cells slots) {k : Nat} (N : Fr k locs) : ∃ L, Stand p l e R s m args below meth c T L cells slots ∧ Fr k L := ⟨locs, X, N⟩
/-- the run from A ends, and P holds at the end -/
def own_Go (p : Program) (e : Env) (below : List Frame) (A : State) (P : State → Outcome → Prop) : Prop := ∃ s₂ o, Steps p.tables e below A s₂ ∧ s₂.status = .running ∧ Ended s₂ below o ∧ P s₂ o
theorem own_by {A B : State} {P : State → Outcome → Prop} (h : ∀ t, Steps p.tables e below B t → Steps p.tables e below A t) (g : own_Go p e below B P) : own_Go p e below A P := by
  obtain ⟨s2, o, h1, h2⟩ := g
  exact ⟨s2, o, h _ h1, h2⟩
theorem own_end (X : Stand p l e R s m args below meth c T locs cells slots) {v : Option Value} (hv : meth.sig.returnType = none → v = none) (hlk : meth.locks = false) {A : State} {Q : Option Value → Heap → List Loc → Prop} {k n : Nat}
    (hs : ∀ fs, (∀ (f : JFrame) (acts : List Action), f.method = m → f.locked = none → f.entered = [] → (doReturn e (T.setTop f) acts v).1 = T.setFrames fs) → Steps p.tables e below A (T.setFrames fs))
    (hq : Q v T.heap locs) (hk : cells ≤ k) (hn : slots ≤ n) : own_Go p e below A (fun t o => ∃ v L, o = .returned v ∧ Q v t.heap L ∧ FrameEnd s o t L k n) := by
  obtain ⟨fs, hr, hrun, hended, hW, hsame⟩ := X.leave (v := v) hv hlk
  exact ⟨_, _, hs fs hr, hrun, hended, _, _, rfl, hq, ⟨_, rfl⟩, hW, hsame.mono hk hn⟩
theorem own_endW {vm₁ : Vm} (X : Stand p l e R (s.setVm vm₁) m args below meth c T locs cells slots) {n0 : Nat} (hS : s.Since vm₁ n0) (hn0 : n0 ≤ T.heap.size) {v : Option Value} (hv : meth.sig.returnType = none → v = none) (hlk : meth.locks = false) {A : State} {Q : Option Value → Heap → List Loc → Prop} {k n : Nat}
    (hs : ∀ fs, (∀ (f : JFrame) (acts : List Action), f.method = m → f.locked = none → f.entered = [] → (doReturn e (T.setTop f) acts v).1 = T.setFrames fs) → Steps p.tables e below A (T.setFrames fs))
    (hq : Q v T.heap locs) (hk : cells ≤ k) (hn : slots ≤ n) : own_Go p e below A (fun t o => ∃ v L, o = .returned v ∧ Q v t.heap L ∧ ReturnedEndW s o t L k n) := by
  obtain ⟨fs, hr, hrun, hended, h1, h2, h3, h4⟩ := X.leaveW hS hn0 (v := v) hv hlk
  exact ⟨_, _, hs fs hr, hrun, hended, _, _, rfl, hq, h1, h2, h3, h4.mono hk hn⟩
theorem own_newPE {Z : State} {a0 : Array Value} {h : Heap} (X : Stand p l e R s m args below meth c T locs cells slots) (hx : p.tables.exec = Jvm.exec) (hZ : Z.Warmed39 s.vm) {aty : ArrayType} (w : (Cond.arrayClass (newarray.typeOf aty)).before a0 Z = true) (eT : T.heap = h) {g : JFrame} (hg : g.method = m) (hd : decode c.code g.pc = .ok (.newarray aty, 2)) {n : Int32} {rest : List Value} (hs : g.stack = .int n :: rest)
    (hn : ¬ n < 0) {cap : Nat} (hcap : n.toNatClampNeg ≤ cap) (hb : cap * 8 ≤ 536870912) (hc : cells + 1 ≤ R.cells) (hl : slots + cap ≤ R.slots) {ad : String} (had : "[" ++ (newarray.typeOf aty).toString = ad) :
    ∃ T' h' cA, Stand p l e R s m args below meth c T' locs (cells + 1) (slots + cap) ∧ T'.heap = h' ∧ Ext h h' ∧ Arr Z h' h.size (newA cA (newarray.typeOf aty) n) (newarray.typeOf aty) ∧ Exa Z h' h.size ad ∧
      ∀ target, Steps p.tables e below (T'.setTop { g with pc := g.pc + 2, stack := .ref h.size :: rest }) target → Steps p.tables e below (T.setTop g) target := by
  have hcb : componentBytes (newarray.typeOf aty) ≤ 8 := by cases aty <;> decide
  obtain ⟨cA, kA, comp, f1, f2, f3, Y, st⟩ := X.newarrayPrim hx (mvA hZ w) hg hd hs hn (Nat.le_trans (Nat.mul_le_mul hcap hcb) hb) hc (Nat.le_trans (Nat.add_le_add_left hcap _) hl)
  subst eT had
  have f1' : Z.vm.findClass ("[" ++ (newarray.typeOf aty).toString) = some cA := by rw [← hZ.alike.findClass]; exact f1
  obtain ⟨kZ, z1, -⟩ := Vm.findClass_spec f1'
  obtain ⟨k', z2, z3⟩ := hZ.alike.2.2 _ _ z1
  have ek : kA = k' := Option.some.inj (f2.symm.trans z2)
  have kd : kZ.kind = .array comp (newarray.typeOf aty) := by rw [← f3, ek, z3]
  have hN : (T.heap.push (newA cA (newarray.typeOf aty) n))[T.heap.size]? = some (newA cA (newarray.typeOf aty) n) := by simp
  refine ⟨_, _, cA, Y.more (Nat.le_refl _) (Nat.add_le_add_left hcap _), rfl, ext_of fun a q => ?_, ⟨hN, ⟨fun _ z => (by cases z), kZ, z1, comp, kd⟩, fun z => (by cases z)⟩, ⟨_, kZ, hN, f1', z1, rfl, fun ho => by rw [kd] at ho; cases ho⟩, st⟩
  exact (Array.getElem?_push_lt q).trans (Array.getElem?_eq_getElem q).symm
end New
section Arf
variable {Z : State} {h h' : Heap} {a b : Addr} {ty : FieldType} {n z : Int32} {f g : Nat → Value} {sl : Nat} {v : Value} {ws : List Addr} {k : ClassId}
/-- an array of n places, of which place i holds f i -/
def own_Arf (Z : State) (h : Heap) (a : Addr) (ty : FieldType) (n : Int32) (f : Nat → Value) : Prop := ∃ c : Cell, Arr Z h a c ty ∧ c.slots.size = n.toNatClampNeg ∧ ¬ n < 0 ∧ ∀ i, i < c.slots.size → c.slots[i]? = some (f i)
theorem own_Arf.lt (F : own_Arf Z h a ty n f) : a < h.size := by obtain ⟨c, A, -⟩ := F; exact A.lt
theorem own_Arf.ext (F : own_Arf Z h a ty n f) (E : Ext h h') : own_Arf Z h' a ty n f := by obtain ⟨c, A, r⟩ := F; exact ⟨c, A.ext E, r⟩
theorem own_Arf.other (F : own_Arf Z h b ty n f) (W : Wr h h' a sl v) (q : b ≠ a) : own_Arf Z h' b ty n f := by obtain ⟨c, A, r⟩ := F; exact ⟨c, A.other W q, r⟩
theorem own_Arf.keep (F : own_Arf Z h a ty n f) (K : Keep h h' ws) (q : a ∉ ws) : own_Arf Z h' a ty n f := by obtain ⟨c, A, r⟩ := F; exact ⟨c, ⟨K.2.1 a c A.1 q, A.2⟩, r⟩
theorem own_Arf.new (A : Arr Z h a (newA k ty z) ty) (q : ¬ z < 0) : own_Arf Z h a ty z (fun _ => defaultValue ty) := ⟨_, A, sz_new _ _ _, q, fun i hi => by
  rw [sz_new] at hi
  simp [newA, hi]⟩
theorem own_Arf.set (F : own_Arf Z h a ty n f) (W : Wr h h' a sl v) : own_Arf Z h' a ty n (fun i => if i = sl then v else f i) := by
  obtain ⟨c, A, S, N, H⟩ := F
  have hsl : sl < c.slots.size := by
    obtain ⟨c2, e1, -, e3, -⟩ := W
    cases A.1.symm.trans e1
    exact e3
  refine ⟨_, A.same W, by rw [sz_set]; exact S, N, fun i hi => ?_⟩
  rw [sz_set] at hi
  by_cases e : i = sl
  · subst e
    simp [Cell.setSlot, hi]
  · simp only [Cell.setSlot, if_neg e]
    rw [Array.getElem?_setIfInBounds_ne (Ne.symm e)]
    exact H i hi
theorem own_Arf.congr (F : own_Arf Z h a ty n f) (q : ∀ i, i < n.toNatClampNeg → f i = g i) : own_Arf Z h a ty n g := by
  obtain ⟨c, A, S, N, H⟩ := F
  exact ⟨c, A, S, N, fun i hi => by rw [← q i (by rw [← S]; exact hi)]; exact H i hi⟩
theorem own_Arf.at (F : own_Arf Z h a ty n f) {j : Int32} (q : ¬ j < 0 ∧ j < n) : ∃ c : Cell, Arr Z h a c ty ∧ ¬ (j < 0 ∨ c.slots.size ≤ j.toNatClampNeg) ∧ c.slots[j.toNatClampNeg]? = some (f j.toNatClampNeg) := by
  obtain ⟨c, A, S, N, H⟩ := F
  have hin := inb_of S q
  exact ⟨c, A, hin, H _ (Nat.lt_of_not_le fun y => hin (Or.inr y))⟩
theorem own_Arf.nn (F : own_Arf Z h a ty n f) : ¬ n < 0 := by obtain ⟨c, A, S, N, H⟩ := F; exact N
/-- an array of objects of the class C -/
def own_Ovr (Z : State) (h : Heap) (a : Addr) (C : String) : Prop := ∃ (c : Cell) (ty : FieldType), Arr Z h a c ty ∧ Ovr Z c.cls C
theorem own_Ovr.wr {C : String} (W : Wr h h' b sl v) (F : own_Ovr Z h a C) : own_Ovr Z h' a C := by
  obtain ⟨c, ty, A, O⟩ := F
  by_cases e : a = b
  · subst e; exact ⟨_, ty, A.same W, O⟩
  · exact ⟨c, ty, A.other W e, O⟩
theorem own_Ovr.ext {C : String} (F : own_Ovr Z h a C) (E : Ext h h') : own_Ovr Z h' a C := by obtain ⟨c, ty, A, O⟩ := F; exact ⟨c, ty, A.ext E, O⟩
theorem own_Ovr.sto {C : String} {y : Addr} (F : own_Ovr Z h a C) (I : Exa Z h y C) : Sto Z h a (.ref y) := by obtain ⟨c, ty, A, O⟩ := F; exact Sto.of A O (Ins.self I)
theorem own_selp {s : State} {a0 args : Array Value} {y : MethodName} {n : Nat} (hZ : Z.Warmed39 s.vm) (wi : (Cond.instantiable y.cls n).before a0 Z = true) (wn : (Cond.instanceMethod y).before a0 Z = true) (wp : (Cond.privateMethod y).before a0 Z = true) (hy : y.cls ≠ "java/lang/invoke/MethodHandle" ∧ y.cls ≠ "java/lang/invoke/VarHandle") : (Cond.selects y.cls y y).before args s = true := by
  obtain ⟨c2, k2, i1, i2, -, i4, -⟩ := Cond.instantiable_spec (mvT hZ wi : (Cond.instantiable y.cls n).before args s = true)
  simp only [Bool.or_eq_false_iff] at i4
  exact selects_self_of_private i1 i2 i4.1 (Cond.privateMethod_at (mvP hZ wp (args := args))) (mvT hZ wn) hy
theorem own_sta_keep {C n d : String} {w : Value} (F : Sta Z h C n d w) (K : Keep h h' []) : Sta Z h' C n d w := by
  obtain ⟨cf, i, k, f, st, cell, h1, h2, h3, h4, h5, h6⟩ := F
  exact ⟨cf, i, k, f, st, cell, h1, h2, h3, h4, K.2.1 _ _ h5 nin0, h6⟩
theorem own_ofNat_int {m : Nat} (h : m < 2 ^ 31) : (Int32.ofNat m).toInt = m := Int32.toInt_ofNat_of_lt h
theorem own_tn {m : Nat} (h : m < 2 ^ 31) : (Int32.ofNat m).toNatClampNeg = m := by
  show (Int32.ofNat m).toInt.toNat = m
  rw [own_ofNat_int h]; omega
theorem own_nn {m : Nat} (h : m < 2 ^ 31) : ¬ Int32.ofNat m < 0 := by
  rw [Int32.lt_iff_toInt_lt, own_ofNat_int h]; show ¬ (m : Int) < 0; omega
theorem own_ltN {i m : Nat} (h : i < m) (hm : m < 2 ^ 31) : Int32.ofNat i < Int32.ofNat m := by
  rw [Int32.lt_iff_toInt_lt, own_ofNat_int hm, own_ofNat_int (by omega)]; omega
theorem own_in {i m : Nat} (h : i < m) (hm : m < 2 ^ 31) : ¬ Int32.ofNat i < 0 ∧ Int32.ofNat i < Int32.ofNat m := ⟨own_nn (by omega), own_ltN h hm⟩
theorem own_injN {i m : Nat} (hi : i < 2 ^ 31) (hm : m < 2 ^ 31) (e : Int32.ofNat i = Int32.ofNat m) : i = m := by
  have := congrArg Int32.toInt e
  rw [own_ofNat_int hi, own_ofNat_int hm] at this; omega
theorem own_Arf.arv (F : own_Arf Z h a ty n f) (hf : ∀ i, i < n.toNatClampNeg → fits ty (f i) = true) (d : Value) : ∃ k, Arv Z h a k ty n ((List.range n.toNatClampNeg).map f) d := by
  obtain ⟨c, A, S, N, H⟩ := F
  have hg : ∀ i, i < n.toNatClampNeg → ((List.range n.toNatClampNeg).map f).getD i d = f i := fun i hi => by
    simp [List.getD, hi]
  refine ⟨c.cls, c, A, rfl, S, N, fun i hi => ?_, fun i hi => ?_⟩
  · rw [hg i (by rw [← S]; exact hi)]; exact H i hi
  · rw [hg i (by rw [← S]; exact hi)]; exact hf i (by rw [← S]; exact hi)
theorem own_Arf.of {vs : List Value} {d : Value} (F : Arv Z h a k ty n vs d) : own_Arf Z h a ty n (fun i => vs.getD i d) := by
  obtain ⟨c, A, -, S, N, H, -⟩ := F
  exact ⟨c, A, S, N, H⟩
end Arf
end Jvm.RoadKit
namespace Jvm.Pilot.@@N@@
open Jvm Jvm.ClassFile Sem Op Lib Jvm.Free Jvm.Stand Jvm.LawKit Jvm.RoadKit Bundle Jvm.Pilot.@@N@@.Jvm.D
def own_key (t : Nat) : Int32 := ([-13, 38, -127, -60, 57, -122, -37, -110, 113, -93, -71, -26, 83, 122, -107, 124] : List Int32).getD t 0
def own_val : Value → Int32
  | .int x => x
  | _ => 0
def own_out (f : Nat → Value) (i t : Nat) : Value := if t < i then .int ((own_val (f t) ^^^ (own_key (t % 16))).toInt8.toInt32) else .int 0
theorem own_outv {f : Nat → Value} {n t : Nat} {x : Int32} (h : t < n) (hx : f t = .int x) : own_out f n t = .int ((x ^^^ (own_key (t % 16))).toInt8.toInt32) := by
  unfold own_out; rw [if_pos h, hx]; rfl
theorem own_b8 (x : Int32) : nar .byte (x.toInt8.toInt32) = x.toInt8.toInt32 := by
  show x.toInt8.toInt32.toInt8.toInt32 = x.toInt8.toInt32
  rw [Int8.toInt8_toInt32]
theorem own_out_next {f : Nat → Value} {i : Nat} {x : Int32} (hi : i < 2 ^ 31) (hx : f i = .int x) (t : Nat) : (if t = (Int32.ofNat i).toNatClampNeg then (.int (nar .byte ((x ^^^ (own_key (i % 16))).toInt8.toInt32))) else own_out f i t) = own_out f (i + 1) t := by
  rw [own_tn hi, own_b8]
  by_cases e : t = i
  · subst e; rw [if_pos rfl, own_outv (Nat.lt_succ_self t) hx]
  · rw [if_neg e]; unfold own_out
    by_cases q : t < i
    · rw [if_pos q, if_pos (by omega)]
    · rw [if_neg q, if_neg (by omega)]
theorem own_a1 (s : Nat) : Int32.ofNat s + (1 : Int32) = Int32.ofNat (s + 1) := by rw [Int32.ofNat_add]; rfl
theorem own_small {w : Int32} {N : Nat} (h0 : 0 ≤ w.toInt) (h1 : w.toInt < N) : ∃ n : Nat, n < N ∧ w = Int32.ofNat n := by
  refine ⟨w.toInt.toNat, by omega, ?_⟩
  apply Int32.toInt_inj.mp
  have : w.toInt < 2147483648 := w.toInt_lt
  rw [Int32.toInt_ofNat_of_lt (by show w.toInt.toNat < 2 ^ 31; omega)]
  omega
theorem own_rem16 {i : Nat} (h : i < 2 ^ 31) : Int32.ofNat i % (16 : Int32) = Int32.ofNat (i % 16) := by
  apply Int32.toInt_inj.mp
  have e := own_ofNat_int h
  have h2 := (c_irem (Int32.ofNat i) 16 16 (by decide)).1 (by omega)
  have e2 := own_ofNat_int (m := i % 16) (by omega)
  omega
theorem own_and15 {i : Nat} (h : i < 2 ^ 31) : Int32.ofNat i &&& (15 : Int32) = Int32.ofNat (i % 16) := by
  apply Int32.toInt_inj.mp
  have e := own_ofNat_int h
  have h2 := c_mask (Int32.ofNat i) 15 4 (by decide) (by decide)
  have e2 := own_ofNat_int (m := i % 16) (by omega)
  omega
theorem own_len63 (x : Int32) : ∃ n : Nat, n < 64 ∧ x &&& (63 : Int32) = Int32.ofNat n := by
  have h := c_mask x 63 6 (by decide) (by decide)
  exact own_small (by omega) (by omega)
theorem own_idx {x q : Int32} {k n : Nat} (hk : q.toBitVec.toNat % 32 = k) (h0 : 0 < k) (hn : 0 < n) (hm : n < 2 ^ 31) : ∃ j : Nat, j < n ∧ ((x.toUInt32 >>> (q &&& 31).toUInt32).toInt32) % (Int32.ofNat n) = Int32.ofNat j := by
  have h := c_iushr x q k hk h0
  have e := own_ofNat_int hm
  have hp : 0 ≤ ((x.toInt % 4294967296) / ((2 ^ k : Nat) : Int)) := Int.ediv_nonneg (Int.emod_nonneg _ (by decide)) (Int.natCast_nonneg _)
  have h2 := (c_iremV ((x.toUInt32 >>> (q &&& 31).toUInt32).toInt32) (Int32.ofNat n)).1 (by omega) (by omega)
  exact own_small (by omega) (by omega)
theorem own_eqi {args : Array Value} {s : State} {t : Term} {k : Int32} (h : (Jvm.Cond.eq t (Term.int k)).value args s none s [] = some true) : t.eval args s none [] s = some (.int k) := by
  simp only [Cond.value, Term.eval] at h
  cases ht : t.eval args s none [] s with
  | none => simp [ht] at h
  | some x => cases x <;> simp [ht] at h ⊢; exact h
theorem own_size {args : Array Value} {s : State} {t : Term} {a : Addr} {cl : Cell} {n : Nat} (hn : n < 2 ^ 31) (ev : t.eval args s none [] s = some (.ref a)) (harr : s.arrayAt? a = some cl) (h : (Term.length t).eval args s none [] s = some (.int (Int32.ofNat n))) : cl.slots.size = n := by
  by_cases hb : cl.slots.size < 2 ^ 31
  · have q := (len_f ev harr hb).symm.trans h
    injection q with q
    injection q with q
    have q3 := congrArg Int32.toInt q
    rw [len_toInt hb, own_ofNat_int hn] at q3
    omega
  · simp [Term.eval, ev, harr, hb] at h
theorem d2_0 : decode method_2_code 0 = .ok (.aload_n 1, 1) := by decide +kernel
theorem d2_1 : decode method_2_code 1 = .ok (.iload_n 3, 1) := by decide +kernel
theorem d2_2 : decode method_2_code 2 = .ok (.baload, 1) := by decide +kernel
theorem d2_3 : decode method_2_code 3 = .ok (.aload_n 0, 1) := by decide +kernel
theorem d2_4 : decode method_2_code 4 = .ok (.iload_n 3, 1) := by decide +kernel
theorem d2_5 : decode method_2_code 5 = .ok (.baload, 1) := by decide +kernel
theorem d2_6 : decode method_2_code 6 = .ok (.aload_n 2, 1) := by decide +kernel
theorem d2_7 : decode method_2_code 7 = .ok (.iload_n 3, 1) := by decide +kernel
theorem d2_8 : decode method_2_code 8 = .ok (.bipush 15, 2) := by decide +kernel
theorem d2_10 : decode method_2_code 10 = .ok (.iand, 1) := by decide +kernel
theorem d2_11 : decode method_2_code 11 = .ok (.baload, 1) := by decide +kernel
theorem d2_12 : decode method_2_code 12 = .ok (.ixor, 1) := by decide +kernel
theorem d2_13 : decode method_2_code 13 = .ok (.i2b, 1) := by decide +kernel
theorem d2_14 : decode method_2_code 14 = .ok (.if_icmp .ne 7, 3) := by decide +kernel
theorem d2_17 : decode method_2_code 17 = .ok (.iconst 1, 1) := by decide +kernel
theorem d2_18 : decode method_2_code 18 = .ok (.goto 4, 3) := by decide +kernel
theorem d2_22 : decode method_2_code 22 = .ok (.ireturn, 1) := by decide +kernel
theorem own_pn0 : plainName "com/example/palaver/palaver/protocol/FlapLoginRoastPinLaw" = true := by first | (simp [plainName, overriddenIn]; done) | decide +kernel
theorem ef_rmA (m : MethodId) (x0 : Addr) (x1 : Addr) (x2 : Addr) (x3 : Int32) : entryFrame m #[(.ref x0), (.ref x1), (.ref x2), (.int x3)] 4 = mkF m 0 #[.val (.ref x0), .val (.ref x1), .val (.ref x2), .val (.int x3)] [] := by first | (simp [entryFrame, mkF, argsToLocals, Value.category]; done) | rfl
def Q_rmA (Z : State) (r0 r1 r2 : Addr) (ti n : Nat) (f g : Nat → Value) (xa : Int32) (h0 : Heap) (n0 : Nat) (v : Option Value) (h : Heap) (L : List Loc) : Prop := v = some (.int 1) ∧ Fr n0 L ∧ h = h0
set_option maxRecDepth 65536 in
set_option maxHeartbeats 40000000 in
theorem rmA (l : Launch) (Z : State) (a0 : Array Value) (hw : ∀ d ∈ tables_1, d.before a0 Z = true) (ws : List Jvm.Cond) (r0 r1 r2 : Addr) (ti n : Nat) (f g : Nat → Value) (xa : Int32) (h0 : Heap) (n0 : Nat) (Z0 : n0 ≤ h0.size) (V_r0 : own_Arf Z h0 r0 .byte (Int32.ofNat n) f) (V_r1 : own_Arf Z h0 r1 .byte (Int32.ofNat n) g) (V_r2 : own_Arf Z h0 r2 .byte (16 : Int32) (fun t => .int (own_key t))) (htn : ti < n) (hn64 : n < 64) (hx0 : f ti = .int xa) (hy : g ti = .int ((xa ^^^ (own_key (ti % 16))).toInt8.toInt32)) :
    MetFree l (⟨"com/example/palaver/palaver/protocol/FlapLoginRoastPinLaw", "at", "([B[B[BI)Z"⟩ : MethodName) (head1 (Jvm.Cond.code (⟨"com/example/palaver/palaver/protocol/FlapLoginRoastPinLaw", "at", "([B[B[BI)Z"⟩ : MethodName) method_2_code 4 (some .boolean) :: ws) ({ frames := 0, cells := 0, slots := 0, locals := 0 } : Room)) (fun a U => a = #[(.ref r0), (.ref r1), (.ref r2), (.int (Int32.ofNat ti))] ∧ Z.Warmed39 U.vm ∧ U.heap = h0) (fun _ _ _ _ _ => True) (fun _ U o U' => ∃ v L, o = .returned v ∧ Q_rmA Z r0 r1 r2 ti n f g xa h0 n0 v U'.heap L ∧ FrameEnd U o U' L ({ frames := 0, cells := 0, slots := 0, locals := 0 } : Room).cells ({ frames := 0, cells := 0, slots := 0, locals := 0 } : Room).slots) := by
  refine MetFree.of_bodySF (plainFor_of_name own_pn0) hisR ?_
  intro p e s m args below meth c s₁ Bd hml0 hP hK
  obtain ⟨rfl, hZ, hh⟩ := hP
  have hx := Bd.exec
  have hby := Bd.bytes
  have hml : c.maxLocals = 4 := hml0
  have hown : s.vm.findClass "com/example/palaver/palaver/protocol/FlapLoginRoastPinLaw" = some m.cls := findClass_of_methodNamed Bd.named
  have hnm := (name_of_methodNamed Bd.named Bd.method).1
  have X0 : Stand p l e ({ frames := 0, cells := 0, slots := 0, locals := 0 } : Room) s m #[(.ref r0), (.ref r1), (.ref r2), (.int (Int32.ofNat ti))] below meth c s₁ [] 0 0 := Stand.of_body Bd
  have e0 : s₁.heap = h0 := by rw [← hh, Bd.state]; rfl
  show own_Go p e below (s₁.setTop (entryFrame m #[(.ref r0), (.ref r1), (.ref r2), (.int (Int32.ofNat ti))] 4)) (fun t o => ∃ v L, o = .returned v ∧ Q_rmA Z r0 r1 r2 ti n f g xa h0 n0 v t.heap L ∧ FrameEnd s o t L ({ frames := 0, cells := 0, slots := 0, locals := 0 } : Room).cells ({ frames := 0, cells := 0, slots := 0, locals := 0 } : Room).slots)
  refine own_by (B := s₁.setTop (mkF m 0 #[.val (.ref r0), .val (.ref r1), .val (.ref r2), .val (.int (Int32.ofNat ti))] [])) (fun t k => castTop (ef_rmA m r0 r1 r2 (Int32.ofNat ti)) k) ?_
  have Nf := Fr.nil n0
  have Zs := Z0
  refine own_by (B := s₁.setTop (mkF m 1 #[.val (.ref r0), .val (.ref r1), .val (.ref r2), .val (.int (Int32.ofNat ti))] [(.ref r1)])) (fun t k => XS.aloadN X0.here hx rfl (hb hby d2_0) rfl rfl k) ?_
  refine own_by (B := s₁.setTop (mkF m 2 #[.val (.ref r0), .val (.ref r1), .val (.ref r2), .val (.int (Int32.ofNat ti))] [(.int (Int32.ofNat ti)), (.ref r1)])) (fun t k => XS.iloadN X0.here hx rfl (hb hby d2_1) rfl k) ?_
  obtain ⟨cl1, Ar1, hin1, hat1⟩ := V_r1.at (j := (Int32.ofNat ti)) (own_in htn (by omega))
  have hat1 := hat1.trans (congrArg some (show _ = (.int ((xa ^^^ (own_key (ti % 16))).toInt8.toInt32)) from (by rw [own_tn (by omega)]; exact hy)))
  refine own_by (B := s₁.setTop (mkF m 3 #[.val (.ref r0), .val (.ref r1), .val (.ref r2), .val (.int (Int32.ofNat ti))] [(.int ((xa ^^^ (own_key (ti % 16))).toInt8.toInt32))])) (fun t k => X0.baloadBytes hx (j := (Int32.ofNat ti)) (v := (.int ((xa ^^^ (own_key (ti % 16))).toInt8.toInt32))) (by rw [e0]; exact Ar1.1) (State.isArrayOf_alike hZ.alike Ar1.2.1) Ar1.2.2 hin1 hat1 (g := (mkF m 2 #[.val (.ref r0), .val (.ref r1), .val (.ref r2), .val (.int (Int32.ofNat ti))] [(.int (Int32.ofNat ti)), (.ref r1)])) rfl rfl (hb hby d2_2) _ k) ?_
  refine own_by (B := s₁.setTop (mkF m 4 #[.val (.ref r0), .val (.ref r1), .val (.ref r2), .val (.int (Int32.ofNat ti))] [(.ref r0), (.int ((xa ^^^ (own_key (ti % 16))).toInt8.toInt32))])) (fun t k => XS.aloadN X0.here hx rfl (hb hby d2_3) rfl rfl k) ?_
  refine own_by (B := s₁.setTop (mkF m 5 #[.val (.ref r0), .val (.ref r1), .val (.ref r2), .val (.int (Int32.ofNat ti))] [(.int (Int32.ofNat ti)), (.ref r0), (.int ((xa ^^^ (own_key (ti % 16))).toInt8.toInt32))])) (fun t k => XS.iloadN X0.here hx rfl (hb hby d2_4) rfl k) ?_
  obtain ⟨cl2, Ar2, hin2, hat2⟩ := V_r0.at (j := (Int32.ofNat ti)) (own_in htn (by omega))
  have hat2 := hat2.trans (congrArg some (show _ = (.int xa) from (by rw [own_tn (by omega)]; exact hx0)))
  refine own_by (B := s₁.setTop (mkF m 6 #[.val (.ref r0), .val (.ref r1), .val (.ref r2), .val (.int (Int32.ofNat ti))] [(.int xa), (.int ((xa ^^^ (own_key (ti % 16))).toInt8.toInt32))])) (fun t k => X0.baloadBytes hx (j := (Int32.ofNat ti)) (v := (.int xa)) (by rw [e0]; exact Ar2.1) (State.isArrayOf_alike hZ.alike Ar2.2.1) Ar2.2.2 hin2 hat2 (g := (mkF m 5 #[.val (.ref r0), .val (.ref r1), .val (.ref r2), .val (.int (Int32.ofNat ti))] [(.int (Int32.ofNat ti)), (.ref r0), (.int ((xa ^^^ (own_key (ti % 16))).toInt8.toInt32))])) rfl rfl (hb hby d2_5) _ k) ?_
  refine own_by (B := s₁.setTop (mkF m 7 #[.val (.ref r0), .val (.ref r1), .val (.ref r2), .val (.int (Int32.ofNat ti))] [(.ref r2), (.int xa), (.int ((xa ^^^ (own_key (ti % 16))).toInt8.toInt32))])) (fun t k => XS.aloadN X0.here hx rfl (hb hby d2_6) rfl rfl k) ?_
  refine own_by (B := s₁.setTop (mkF m 8 #[.val (.ref r0), .val (.ref r1), .val (.ref r2), .val (.int (Int32.ofNat ti))] [(.int (Int32.ofNat ti)), (.ref r2), (.int xa), (.int ((xa ^^^ (own_key (ti % 16))).toInt8.toInt32))])) (fun t k => XS.iloadN X0.here hx rfl (hb hby d2_7) rfl k) ?_
  refine own_by (B := s₁.setTop (mkF m 10 #[.val (.ref r0), .val (.ref r1), .val (.ref r2), .val (.int (Int32.ofNat ti))] [(.int (15 : Int32)), (.int (Int32.ofNat ti)), (.ref r2), (.int xa), (.int ((xa ^^^ (own_key (ti % 16))).toInt8.toInt32))])) (fun t k => XS.bipush X0.here hx rfl (hb hby d2_8) k) ?_
  refine own_by (B := s₁.setTop (mkF m 11 #[.val (.ref r0), .val (.ref r1), .val (.ref r2), .val (.int (Int32.ofNat ti))] [(.int ((Int32.ofNat ti) &&& (15 : Int32))), (.ref r2), (.int xa), (.int ((xa ^^^ (own_key (ti % 16))).toInt8.toInt32))])) (fun t k => XS.iand X0.here hx rfl (hb hby d2_10) rfl k) ?_
  rw [show ((Int32.ofNat ti) &&& (15 : Int32)) = (Int32.ofNat (ti % 16)) from own_and15 (by omega)]
  obtain ⟨cl3, Ar3, hin3, hat3⟩ := V_r2.at (j := (Int32.ofNat (ti % 16))) (own_in (m := 16) (by omega) (by omega))
  have hat3 := hat3.trans (congrArg some (show _ = (.int (own_key (ti % 16))) from (by rw [own_tn (by omega)])))
  refine own_by (B := s₁.setTop (mkF m 12 #[.val (.ref r0), .val (.ref r1), .val (.ref r2), .val (.int (Int32.ofNat ti))] [(.int (own_key (ti % 16))), (.int xa), (.int ((xa ^^^ (own_key (ti % 16))).toInt8.toInt32))])) (fun t k => X0.baloadBytes hx (j := (Int32.ofNat (ti % 16))) (v := (.int (own_key (ti % 16)))) (by rw [e0]; exact Ar3.1) (State.isArrayOf_alike hZ.alike Ar3.2.1) Ar3.2.2 hin3 hat3 (g := (mkF m 11 #[.val (.ref r0), .val (.ref r1), .val (.ref r2), .val (.int (Int32.ofNat ti))] [(.int (Int32.ofNat (ti % 16))), (.ref r2), (.int xa), (.int ((xa ^^^ (own_key (ti % 16))).toInt8.toInt32))])) rfl rfl (hb hby d2_11) _ k) ?_
  refine own_by (B := s₁.setTop (mkF m 13 #[.val (.ref r0), .val (.ref r1), .val (.ref r2), .val (.int (Int32.ofNat ti))] [(.int (xa ^^^ (own_key (ti % 16)))), (.int ((xa ^^^ (own_key (ti % 16))).toInt8.toInt32))])) (fun t k => XS.ixor X0.here hx rfl (hb hby d2_12) rfl k) ?_
  refine own_by (B := s₁.setTop (mkF m 14 #[.val (.ref r0), .val (.ref r1), .val (.ref r2), .val (.int (Int32.ofNat ti))] [(.int ((xa ^^^ (own_key (ti % 16))).toInt8.toInt32)), (.int ((xa ^^^ (own_key (ti % 16))).toInt8.toInt32))])) (fun t k => XS.i2b X0.here hx rfl (hb hby d2_13) rfl k) ?_
  refine own_by (B := s₁.setTop (mkF m 17 #[.val (.ref r0), .val (.ref r1), .val (.ref r2), .val (.int (Int32.ofNat ti))] [])) (fun t k => XS.icmpNo X0.here hx rfl (hb hby d2_14) rfl (teq rfl).2 k) ?_
  refine own_by (B := s₁.setTop (mkF m 18 #[.val (.ref r0), .val (.ref r1), .val (.ref r2), .val (.int (Int32.ofNat ti))] [(.int (1 : Int32))])) (fun t k => XS.iconst X0.here hx rfl (hb hby d2_17) k) ?_
  refine own_by (B := s₁.setTop (mkF m 22 #[.val (.ref r0), .val (.ref r1), .val (.ref r2), .val (.int (Int32.ofNat ti))] [(.int (1 : Int32))])) (fun t k => XS.goto X0.here hx rfl (pc0 := 18) (pc' := 22) rfl (hb hby d2_18) (by decide) (by decide) k) ?_
  exact own_end X0 (v := some (.int (1 : Int32))) (fun h => by rw [Bd.returns] at h; cases h) (BodyLoose.notSynchronized Bd) (Q := (Q_rmA Z r0 r1 r2 ti n f g xa h0 n0)) (fun fs hr => retN X0 hx (t := .boolean) Bd.returns (by simp) (hb hby d2_22) hr) (show (Q_rmA Z r0 r1 r2 ti n f g xa h0 n0) _ s₁.heap _ from (by rw [e0]; exact ⟨rfl, Nf, rfl⟩)) (by decide) (by decide)
theorem d1_0 : decode prog_47_method_2_code 0 = .ok (.aload_n 0, 1) := by decide +kernel
theorem d1_1 : decode prog_47_method_2_code 1 = .ok (.arraylength, 1) := by decide +kernel
theorem d1_2 : decode prog_47_method_2_code 2 = .ok (.newarray .byte, 2) := by decide +kernel
theorem d1_4 : decode prog_47_method_2_code 4 = .ok (.astore_n 1, 1) := by decide +kernel
theorem d1_5 : decode prog_47_method_2_code 5 = .ok (.iconst 0, 1) := by decide +kernel
theorem d1_6 : decode prog_47_method_2_code 6 = .ok (.istore_n 2, 1) := by decide +kernel
theorem d1_7 : decode prog_47_method_2_code 7 = .ok (.iload_n 2, 1) := by decide +kernel
theorem d1_8 : decode prog_47_method_2_code 8 = .ok (.aload_n 0, 1) := by decide +kernel
theorem d1_9 : decode prog_47_method_2_code 9 = .ok (.arraylength, 1) := by decide +kernel
theorem d1_10 : decode prog_47_method_2_code 10 = .ok (.if_icmp .ge 27, 3) := by decide +kernel
theorem d1_13 : decode prog_47_method_2_code 13 = .ok (.aload_n 1, 1) := by decide +kernel
theorem d1_14 : decode prog_47_method_2_code 14 = .ok (.iload_n 2, 1) := by decide +kernel
theorem d1_15 : decode prog_47_method_2_code 15 = .ok (.aload_n 0, 1) := by decide +kernel
theorem d1_16 : decode prog_47_method_2_code 16 = .ok (.iload_n 2, 1) := by decide +kernel
theorem d1_17 : decode prog_47_method_2_code 17 = .ok (.baload, 1) := by decide +kernel
theorem d1_18 : decode prog_47_method_2_code 18 = .ok (.getstatic 7, 3) := by decide +kernel
theorem d1_21 : decode prog_47_method_2_code 21 = .ok (.iload_n 2, 1) := by decide +kernel
theorem d1_22 : decode prog_47_method_2_code 22 = .ok (.getstatic 7, 3) := by decide +kernel
theorem d1_25 : decode prog_47_method_2_code 25 = .ok (.arraylength, 1) := by decide +kernel
theorem d1_26 : decode prog_47_method_2_code 26 = .ok (.irem, 1) := by decide +kernel
theorem d1_27 : decode prog_47_method_2_code 27 = .ok (.baload, 1) := by decide +kernel
theorem d1_28 : decode prog_47_method_2_code 28 = .ok (.ixor, 1) := by decide +kernel
theorem d1_29 : decode prog_47_method_2_code 29 = .ok (.i2b, 1) := by decide +kernel
theorem d1_30 : decode prog_47_method_2_code 30 = .ok (.bastore, 1) := by decide +kernel
theorem d1_31 : decode prog_47_method_2_code 31 = .ok (.iinc 2 1, 3) := by decide +kernel
theorem d1_34 : decode prog_47_method_2_code 34 = .ok (.goto (-27), 3) := by decide +kernel
theorem d1_37 : decode prog_47_method_2_code 37 = .ok (.aload_n 1, 1) := by decide +kernel
theorem d1_38 : decode prog_47_method_2_code 38 = .ok (.areturn, 1) := by decide +kernel
theorem own_pn1 : plainName "com/example/palaver/palaver/protocol/FlapLogin" = true := by first | (simp [plainName, overriddenIn]; done) | decide +kernel
theorem ef_rmR (m : MethodId) (x0 : Addr) : entryFrame m #[(.ref x0)] 3 = mkF m 0 #[.val (.ref x0), .unset, .unset] [] := by first | (simp [entryFrame, mkF, argsToLocals, Value.category]; done) | rfl
def Q_rmR (Z : State) (r0 wk : Addr) (n : Nat) (f : Nat → Value) (h0 : Heap) (n0 : Nat) (v : Option Value) (h : Heap) (L : List Loc) : Prop := v = some (.ref h0.size) ∧ Fr n0 L ∧ Keep h0 h [] ∧ own_Arf Z h h0.size .byte (Int32.ofNat n) (own_out f n)
set_option maxRecDepth 65536 in
set_option maxHeartbeats 40000000 in
theorem rmR (l : Launch) (Z : State) (a0 : Array Value) (hw : ∀ d ∈ tables_1, d.before a0 Z = true) (ws : List Jvm.Cond) (r0 wk : Addr) (n : Nat) (f : Nat → Value) (h0 : Heap) (n0 : Nat) (Z0 : n0 ≤ h0.size) (V_r0 : own_Arf Z h0 r0 .byte (Int32.ofNat n) f) (V_wk : own_Arf Z h0 wk .byte (16 : Int32) (fun t => .int (own_key t))) (S_KEY : Sta Z h0 "com/example/palaver/palaver/protocol/FlapLogin" "ROAST_KEY" "[B" (.ref wk)) (hn64 : n < 64) (hint : ∀ t, t < n → ∃ x, f t = .int x) :
    MetFree l (⟨"com/example/palaver/palaver/protocol/FlapLogin", "roast", "([B)[B"⟩ : MethodName) (head1 (Jvm.Cond.code (⟨"com/example/palaver/palaver/protocol/FlapLogin", "roast", "([B)[B"⟩ : MethodName) prog_47_method_2_code 3 (some (.array .byte)) :: ws) ({ frames := 0, cells := 1, slots := 63, locals := 0 } : Room)) (fun a U => a = #[(.ref r0)] ∧ Z.Warmed39 U.vm ∧ U.heap = h0) (fun _ _ _ _ _ => True) (fun _ U o U' => ∃ v L, o = .returned v ∧ Q_rmR Z r0 wk n f h0 n0 v U'.heap L ∧ FrameEnd U o U' L ({ frames := 0, cells := 1, slots := 63, locals := 0 } : Room).cells ({ frames := 0, cells := 1, slots := 63, locals := 0 } : Room).slots) := by
  refine MetFree.of_bodySF (plainFor_of_name own_pn1) hisR ?_
  intro p e s m args below meth c s₁ Bd hml0 hP hK
  obtain ⟨rfl, hZ, hh⟩ := hP
  have hx := Bd.exec
  have hby := Bd.bytes
  have hml : c.maxLocals = 3 := hml0
  have hown : s.vm.findClass "com/example/palaver/palaver/protocol/FlapLogin" = some m.cls := findClass_of_methodNamed Bd.named
  have hnm := (name_of_methodNamed Bd.named Bd.method).1
  have X0 : Stand p l e ({ frames := 0, cells := 1, slots := 63, locals := 0 } : Room) s m #[(.ref r0)] below meth c s₁ [] 0 0 := Stand.of_body Bd
  have e0 : s₁.heap = h0 := by rw [← hh, Bd.state]; rfl
  show own_Go p e below (s₁.setTop (entryFrame m #[(.ref r0)] 3)) (fun t o => ∃ v L, o = .returned v ∧ Q_rmR Z r0 wk n f h0 n0 v t.heap L ∧ FrameEnd s o t L ({ frames := 0, cells := 1, slots := 63, locals := 0 } : Room).cells ({ frames := 0, cells := 1, slots := 63, locals := 0 } : Room).slots)
  refine own_by (B := s₁.setTop (mkF m 0 #[.val (.ref r0), .unset, .unset] [])) (fun t k => castTop (ef_rmR m r0) k) ?_
  have Nf := Fr.nil n0
  have Zs := Z0
  have Kp := Keep.refl h0 []
  refine own_by (B := s₁.setTop (mkF m 1 #[.val (.ref r0), .unset, .unset] [(.ref r0)])) (fun t k => XS.aloadN X0.here hx rfl (hb hby d1_0) rfl rfl k) ?_
  obtain ⟨cl1, Ar1, Sz1, Ng1, -⟩ := id V_r0
  refine own_by (B := s₁.setTop (mkF m 2 #[.val (.ref r0), .unset, .unset] [(.int (Int32.ofNat n))])) (fun t k => X0.arraylength hx (by rw [e0]; exact Ar1.1) (State.isArrayOf_alike hZ.alike Ar1.2.1) (g := (mkF m 1 #[.val (.ref r0), .unset, .unset] [(.ref r0)])) rfl rfl (hb hby d1_1) _ (by rw [len_of Sz1 Ng1]; exact k)) ?_
  obtain ⟨T2, h2, k2, X2, e2, E2, A2, st2⟩ := newP X0 hx hZ (hw _ (List.mem_of_getElem? (i := 0) rfl)) e0 (g := (mkF m 2 #[.val (.ref r0), .unset, .unset] [(.int (Int32.ofNat n))])) rfl (hb hby d1_2) rfl (own_nn (by omega)) (cap := 63) (by rw [own_tn (by omega)]; omega) (by decide) (by decide) (by decide)
  obtain ⟨b2, gq2⟩ : ∃ z, z = h0.size := ⟨_, rfl⟩
  rw [← gq2] at A2 st2
  have ne_r0_b2 : r0 ≠ b2 := Nat.ne_of_lt (Nat.lt_of_lt_of_le V_r0.lt (Nat.le_of_eq gq2.symm))
  have ne_wk_b2 : wk ≠ b2 := Nat.ne_of_lt (Nat.lt_of_lt_of_le V_wk.lt (Nat.le_of_eq gq2.symm))
  have g_b2 : n0 ≤ b2 := Nat.le_trans Zs (Nat.le_of_eq gq2.symm)
  have sz_b2 : h0.size ≤ b2 := Nat.le_trans Kp.1 (Nat.le_of_eq gq2.symm)
  have V_r0 := V_r0.ext E2
  have V_wk := V_wk.ext E2
  have S_KEY := S_KEY.ext E2
  have Zs := Nat.le_trans Zs E2.1
  have Kp := Kp.ext E2
  have V_b2 := own_Arf.new A2 (own_nn (by omega))
  refine own_by (B := T2.setTop (mkF m 4 #[.val (.ref r0), .unset, .unset] [(.ref b2)])) st2 ?_
  refine own_by (B := T2.setTop (mkF m 5 #[.val (.ref r0), .val (.ref b2), .unset] [])) (fun t k => XS.astoreN X2.here hx rfl (hb hby d1_4) rfl rfl (l' := #[.val (.ref r0), .val (.ref b2), .unset]) rfl k) ?_
  refine own_by (B := T2.setTop (mkF m 6 #[.val (.ref r0), .val (.ref b2), .unset] [(.int (0 : Int32))])) (fun t k => XS.iconst X2.here hx rfl (hb hby d1_5) k) ?_
  refine own_by (B := T2.setTop (mkF m 7 #[.val (.ref r0), .val (.ref b2), .val (.int (0 : Int32))] [])) (fun t k => XS.istoreN X2.here hx rfl (hb hby d1_6) rfl (l' := #[.val (.ref r0), .val (.ref b2), .val (.int (0 : Int32))]) rfl k) ?_
  have loop : ∀ (kk i : Nat) (T : State) (h : Heap) (locs : List Loc) (X : Stand p l e ({ frames := 0, cells := 1, slots := 63, locals := 0 } : Room) s m #[(.ref r0)] below meth c T locs 1 63) (eT : T.heap = h) (Nf : Fr n0 locs) (Zs : n0 ≤ h.size) (Kp : Keep h0 h []) (V_r0 : own_Arf Z h r0 .byte (Int32.ofNat n) f) (V_b2 : own_Arf Z h b2 .byte (Int32.ofNat n) (own_out f i)) (V_wk : own_Arf Z h wk .byte (16 : Int32) (fun t => .int (own_key t))) (S_KEY : Sta Z h "com/example/palaver/palaver/protocol/FlapLogin" "ROAST_KEY" "[B" (.ref wk)), i + kk = n → own_Go p e below (T.setTop (mkF m 7 #[.val (.ref r0), .val (.ref b2), .val (.int (Int32.ofNat i))] [])) (fun t o => ∃ v L, o = .returned v ∧ Q_rmR Z r0 wk n f h0 n0 v t.heap L ∧ FrameEnd s o t L ({ frames := 0, cells := 1, slots := 63, locals := 0 } : Room).cells ({ frames := 0, cells := 1, slots := 63, locals := 0 } : Room).slots) := by
    intro kk
    induction kk with
    | zero =>
      intro i T h locs X eT Nf Zs Kp V_r0 V_b2 V_wk S_KEY hik
      have hin : i = n := by omega
      refine own_by (B := T.setTop (mkF m 8 #[.val (.ref r0), .val (.ref b2), .val (.int (Int32.ofNat i))] [(.int (Int32.ofNat i))])) (fun t k => XS.iloadN X.here hx rfl (hb hby d1_7) rfl k) ?_
      refine own_by (B := T.setTop (mkF m 9 #[.val (.ref r0), .val (.ref b2), .val (.int (Int32.ofNat i))] [(.ref r0), (.int (Int32.ofNat i))])) (fun t k => XS.aloadN X.here hx rfl (hb hby d1_8) rfl rfl k) ?_
      obtain ⟨cl3, Ar3, Sz3, Ng3, -⟩ := id V_r0
      refine own_by (B := T.setTop (mkF m 10 #[.val (.ref r0), .val (.ref b2), .val (.int (Int32.ofNat i))] [(.int (Int32.ofNat n)), (.int (Int32.ofNat i))])) (fun t k => X.arraylength hx (by rw [eT]; exact Ar3.1) (State.isArrayOf_alike hZ.alike Ar3.2.1) (g := (mkF m 9 #[.val (.ref r0), .val (.ref b2), .val (.int (Int32.ofNat i))] [(.ref r0), (.int (Int32.ofNat i))])) rfl rfl (hb hby d1_9) _ (by rw [len_of Sz3 Ng3]; exact k)) ?_
      refine own_by (B := T.setTop (mkF m 37 #[.val (.ref r0), .val (.ref b2), .val (.int (Int32.ofNat i))] [])) (fun t k => XS.icmpYes X.here hx rfl (pc0 := 10) (pc' := 37) rfl (hb hby d1_10) rfl (flt (fun q => absurd q (by rw [Int32.lt_iff_toInt_lt, hin]; omega))).2.1 (by decide) (by decide) k) ?_
      refine own_by (B := T.setTop (mkF m 38 #[.val (.ref r0), .val (.ref b2), .val (.int (Int32.ofNat i))] [(.ref b2)])) (fun t k => XS.aloadN X.here hx rfl (hb hby d1_37) rfl rfl k) ?_
      exact own_end X (v := some (.ref b2)) (fun h => by rw [Bd.returns] at h; cases h) (BodyLoose.notSynchronized Bd) (Q := (Q_rmR Z r0 wk n f h0 n0)) (fun fs hr => retOut X hx (t := (.array .byte)) Bd.returns rfl (Or.inr (Or.inr (Or.inr (Or.inr ⟨rfl, rfl, rfl⟩)))) (hb hby d1_38) hr) (show (Q_rmR Z r0 wk n f h0 n0) _ T.heap _ from (by rw [eT]; exact ⟨by rw [gq2], Nf, Kp, by rw [← gq2]; exact V_b2.congr (fun t _ => by rw [hin])⟩)) (by decide) (by decide)
    | succ kk ih =>
      intro i T h locs X eT Nf Zs Kp V_r0 V_b2 V_wk S_KEY hik
      obtain ⟨xa, hxi⟩ := hint i (by omega)
      refine own_by (B := T.setTop (mkF m 8 #[.val (.ref r0), .val (.ref b2), .val (.int (Int32.ofNat i))] [(.int (Int32.ofNat i))])) (fun t k => XS.iloadN X.here hx rfl (hb hby d1_7) rfl k) ?_
      refine own_by (B := T.setTop (mkF m 9 #[.val (.ref r0), .val (.ref b2), .val (.int (Int32.ofNat i))] [(.ref r0), (.int (Int32.ofNat i))])) (fun t k => XS.aloadN X.here hx rfl (hb hby d1_8) rfl rfl k) ?_
      obtain ⟨cl4, Ar4, Sz4, Ng4, -⟩ := id V_r0
      refine own_by (B := T.setTop (mkF m 10 #[.val (.ref r0), .val (.ref b2), .val (.int (Int32.ofNat i))] [(.int (Int32.ofNat n)), (.int (Int32.ofNat i))])) (fun t k => X.arraylength hx (by rw [eT]; exact Ar4.1) (State.isArrayOf_alike hZ.alike Ar4.2.1) (g := (mkF m 9 #[.val (.ref r0), .val (.ref b2), .val (.int (Int32.ofNat i))] [(.ref r0), (.int (Int32.ofNat i))])) rfl rfl (hb hby d1_9) _ (by rw [len_of Sz4 Ng4]; exact k)) ?_
      refine own_by (B := T.setTop (mkF m 13 #[.val (.ref r0), .val (.ref b2), .val (.int (Int32.ofNat i))] [])) (fun t k => XS.icmpNo X.here hx rfl (hb hby d1_10) rfl (tlt (own_ltN (by omega) (by omega))).2.1 k) ?_
      refine own_by (B := T.setTop (mkF m 14 #[.val (.ref r0), .val (.ref b2), .val (.int (Int32.ofNat i))] [(.ref b2)])) (fun t k => XS.aloadN X.here hx rfl (hb hby d1_13) rfl rfl k) ?_
      refine own_by (B := T.setTop (mkF m 15 #[.val (.ref r0), .val (.ref b2), .val (.int (Int32.ofNat i))] [(.int (Int32.ofNat i)), (.ref b2)])) (fun t k => XS.iloadN X.here hx rfl (hb hby d1_14) rfl k) ?_
      refine own_by (B := T.setTop (mkF m 16 #[.val (.ref r0), .val (.ref b2), .val (.int (Int32.ofNat i))] [(.ref r0), (.int (Int32.ofNat i)), (.ref b2)])) (fun t k => XS.aloadN X.here hx rfl (hb hby d1_15) rfl rfl k) ?_
      refine own_by (B := T.setTop (mkF m 17 #[.val (.ref r0), .val (.ref b2), .val (.int (Int32.ofNat i))] [(.int (Int32.ofNat i)), (.ref r0), (.int (Int32.ofNat i)), (.ref b2)])) (fun t k => XS.iloadN X.here hx rfl (hb hby d1_16) rfl k) ?_
      obtain ⟨cl5, Ar5, hin5, hat5⟩ := V_r0.at (j := (Int32.ofNat i)) (own_in (by omega) (by omega))
      have hat5 := hat5.trans (congrArg some (show _ = (.int xa) from (by rw [own_tn (by omega)]; exact hxi)))
      refine own_by (B := T.setTop (mkF m 18 #[.val (.ref r0), .val (.ref b2), .val (.int (Int32.ofNat i))] [(.int xa), (.int (Int32.ofNat i)), (.ref b2)])) (fun t k => X.baloadBytes hx (j := (Int32.ofNat i)) (v := (.int xa)) (by rw [eT]; exact Ar5.1) (State.isArrayOf_alike hZ.alike Ar5.2.1) Ar5.2.2 hin5 hat5 (g := (mkF m 17 #[.val (.ref r0), .val (.ref b2), .val (.int (Int32.ofNat i))] [(.int (Int32.ofNat i)), (.ref r0), (.int (Int32.ofNat i)), (.ref b2)])) rfl rfl (hb hby d1_17) _ k) ?_
      obtain ⟨T6, X6, e6, st6⟩ := getS2 X hx hZ hown (host := "") (Or.inl (hw _ (List.mem_of_getElem? (i := 5) rfl))) Via.refl eT S_KEY (g := (mkF m 18 #[.val (.ref r0), .val (.ref b2), .val (.int (Int32.ofNat i))] [(.int xa), (.int (Int32.ofNat i)), (.ref b2)])) rfl (hb hby d1_18)
      refine own_by (B := T6.setTop (mkF m 21 #[.val (.ref r0), .val (.ref b2), .val (.int (Int32.ofNat i))] [(.ref wk), (.int xa), (.int (Int32.ofNat i)), (.ref b2)])) st6 ?_
      refine own_by (B := T6.setTop (mkF m 22 #[.val (.ref r0), .val (.ref b2), .val (.int (Int32.ofNat i))] [(.int (Int32.ofNat i)), (.ref wk), (.int xa), (.int (Int32.ofNat i)), (.ref b2)])) (fun t k => XS.iloadN X6.here hx rfl (hb hby d1_21) rfl k) ?_
      obtain ⟨T7, X7, e7, st7⟩ := getS2 X6 hx hZ hown (host := "") (Or.inl (hw _ (List.mem_of_getElem? (i := 5) rfl))) Via.refl e6 S_KEY (g := (mkF m 22 #[.val (.ref r0), .val (.ref b2), .val (.int (Int32.ofNat i))] [(.int (Int32.ofNat i)), (.ref wk), (.int xa), (.int (Int32.ofNat i)), (.ref b2)])) rfl (hb hby d1_22)
      refine own_by (B := T7.setTop (mkF m 25 #[.val (.ref r0), .val (.ref b2), .val (.int (Int32.ofNat i))] [(.ref wk), (.int (Int32.ofNat i)), (.ref wk), (.int xa), (.int (Int32.ofNat i)), (.ref b2)])) st7 ?_
      obtain ⟨cl8, Ar8, Sz8, Ng8, -⟩ := id V_wk
      refine own_by (B := T7.setTop (mkF m 26 #[.val (.ref r0), .val (.ref b2), .val (.int (Int32.ofNat i))] [(.int (16 : Int32)), (.int (Int32.ofNat i)), (.ref wk), (.int xa), (.int (Int32.ofNat i)), (.ref b2)])) (fun t k => X7.arraylength hx (by rw [e7]; exact Ar8.1) (State.isArrayOf_alike hZ.alike Ar8.2.1) (g := (mkF m 25 #[.val (.ref r0), .val (.ref b2), .val (.int (Int32.ofNat i))] [(.ref wk), (.int (Int32.ofNat i)), (.ref wk), (.int xa), (.int (Int32.ofNat i)), (.ref b2)])) rfl rfl (hb hby d1_25) _ (by rw [len_of Sz8 Ng8]; exact k)) ?_
      refine own_by (B := T7.setTop (mkF m 27 #[.val (.ref r0), .val (.ref b2), .val (.int (Int32.ofNat i))] [(.int ((Int32.ofNat i) % (16 : Int32))), (.ref wk), (.int xa), (.int (Int32.ofNat i)), (.ref b2)])) (fun t k => iremM (g := (mkF m 26 #[.val (.ref r0), .val (.ref b2), .val (.int (Int32.ofNat i))] [(.int (16 : Int32)), (.int (Int32.ofNat i)), (.ref wk), (.int xa), (.int (Int32.ofNat i)), (.ref b2)])) X7 hx rfl (hb hby d1_26) rfl (by decide) k) ?_
      rw [show ((Int32.ofNat i) % (16 : Int32)) = (Int32.ofNat (i % 16)) from own_rem16 (by omega)]
      obtain ⟨cl9, Ar9, hin9, hat9⟩ := V_wk.at (j := (Int32.ofNat (i % 16))) (own_in (m := 16) (by omega) (by omega))
      have hat9 := hat9.trans (congrArg some (show _ = (.int (own_key (i % 16))) from (by rw [own_tn (by omega)])))
      refine own_by (B := T7.setTop (mkF m 28 #[.val (.ref r0), .val (.ref b2), .val (.int (Int32.ofNat i))] [(.int (own_key (i % 16))), (.int xa), (.int (Int32.ofNat i)), (.ref b2)])) (fun t k => X7.baloadBytes hx (j := (Int32.ofNat (i % 16))) (v := (.int (own_key (i % 16)))) (by rw [e7]; exact Ar9.1) (State.isArrayOf_alike hZ.alike Ar9.2.1) Ar9.2.2 hin9 hat9 (g := (mkF m 27 #[.val (.ref r0), .val (.ref b2), .val (.int (Int32.ofNat i))] [(.int (Int32.ofNat (i % 16))), (.ref wk), (.int xa), (.int (Int32.ofNat i)), (.ref b2)])) rfl rfl (hb hby d1_27) _ k) ?_
      refine own_by (B := T7.setTop (mkF m 29 #[.val (.ref r0), .val (.ref b2), .val (.int (Int32.ofNat i))] [(.int (xa ^^^ (own_key (i % 16)))), (.int (Int32.ofNat i)), (.ref b2)])) (fun t k => XS.ixor X7.here hx rfl (hb hby d1_28) rfl k) ?_
      refine own_by (B := T7.setTop (mkF m 30 #[.val (.ref r0), .val (.ref b2), .val (.int (Int32.ofNat i))] [(.int ((xa ^^^ (own_key (i % 16))).toInt8.toInt32)), (.int (Int32.ofNat i)), (.ref b2)])) (fun t k => XS.i2b X7.here hx rfl (hb hby d1_29) rfl k) ?_
      obtain ⟨cl10, Ar10, hin10, -⟩ := V_b2.at (j := (Int32.ofNat i)) (own_in (by omega) (by omega))
      obtain ⟨T10, h10, X10, e10, W10, st10⟩ := stB X7 hx hZ e7 Ar10 (j := (Int32.ofNat i)) hin10 (g := (mkF m 30 #[.val (.ref r0), .val (.ref b2), .val (.int (Int32.ofNat i))] [(.int ((xa ^^^ (own_key (i % 16))).toInt8.toInt32)), (.int (Int32.ofNat i)), (.ref b2)])) rfl rfl (hb hby d1_30)
      have V_r0 := V_r0.other W10 ne_r0_b2
      have V_wk := V_wk.other W10 ne_wk_b2
      have S_KEY := S_KEY.wr W10
      have V_b2 := V_b2.set W10
      have Zs : n0 ≤ h10.size := by rw [W10.size]; exact Zs
      have Kp := Kp.wr W10 (Or.inr sz_b2)
      have Nf := Fr.snoc X10 Nf g_b2
      obtain ⟨LhX10, X10, Nf⟩ := own_hide X10 Nf
      refine own_by (B := T10.setTop (mkF m 31 #[.val (.ref r0), .val (.ref b2), .val (.int (Int32.ofNat i))] [])) st10 ?_
      refine own_by (B := T10.setTop (mkF m 34 #[.val (.ref r0), .val (.ref b2), .val (.int ((Int32.ofNat i) + (1 : Int32)))] [])) (fun t k => XS.iinc X10.here hx rfl (hb hby d1_31) rfl (l' := #[.val (.ref r0), .val (.ref b2), .val (.int ((Int32.ofNat i) + (1 : Int32)))]) rfl k) ?_
      refine own_by (B := T10.setTop (mkF m 7 #[.val (.ref r0), .val (.ref b2), .val (.int ((Int32.ofNat i) + (1 : Int32)))] [])) (fun t k => XS.goto X10.here hx rfl (pc0 := 34) (pc' := 7) rfl (hb hby d1_34) (by decide) (by decide) k) ?_
      rw [show ((Int32.ofNat i) + (1 : Int32)) = (Int32.ofNat (i + 1)) from own_a1 i]
      exact ih (i + 1) T10 h10 _ X10 e10 Nf Zs Kp V_r0 (V_b2.congr (fun t _ => own_out_next (by omega) hxi t)) V_wk S_KEY (by omega)
  exact loop n 0 T2 h2 _ X2 e2 Nf Zs Kp V_r0 (V_b2.congr (fun t _ => (if_neg (Nat.not_lt_zero t)).symm)) V_wk S_KEY (by omega)
theorem own_pd0 : parseMethodDescriptor "([B)[B" = some ⟨[(.array .byte)], some (.array .byte)⟩ := by decide +kernel
theorem own_pd1 : parseMethodDescriptor "([B[B[BI)Z" = some ⟨[(.array .byte), (.array .byte), (.array .byte), .int], some .boolean⟩ := by decide +kernel
theorem ef_rm0 (m : MethodId) (x0 : Int64) (x1 : Int64) (x2 : Int32) (x3 : Int32) : entryFrame m #[(.long x0), (.long x1), (.int x2), (.int x3)] maxLocals = mkF m 0 #[.val (.long x0), .second, .val (.long x1), .second, .val (.int x2), .val (.int x3), .unset, .unset, .unset, .unset, .unset, .unset, .unset, .unset, .unset] [] := by first | (simp [entryFrame, mkF, argsToLocals, Value.category, maxLocals]; done) | rfl
def Q_rm0 (Z : State) (j0 : Int64) (j1 : Int64) (i2 : Int32) (i3 : Int32) (wk : Addr) (h0 : Heap) (n0 : Nat) (v : Option Value) (h : Heap) (L : List Loc) : Prop := v = some (.int 1) ∧ Fr n0 L
set_option maxRecDepth 65536 in
set_option maxHeartbeats 40000000 in
theorem rm0 (l : Launch) (Z : State) (a0 : Array Value) (hw : ∀ d ∈ tables_1, d.before a0 Z = true) (ws : List Jvm.Cond) (j0 : Int64) (j1 : Int64) (i2 : Int32) (i3 : Int32) (wk : Addr) (h0 : Heap) (n0 : Nat) (Z0 : n0 ≤ h0.size) (V_wk : own_Arf Z h0 wk .byte (16 : Int32) (fun t => .int (own_key t))) (S_KEY : Sta Z h0 "com/example/palaver/palaver/protocol/FlapLogin" "ROAST_KEY" "[B" (.ref wk)) :
    MetFree l x (head1 (Jvm.Cond.code x code maxLocals ret :: ws) room_1) (fun a U => a = #[(.long j0), (.long j1), (.int i2), (.int i3)] ∧ Z.Warmed39 U.vm ∧ U.heap = h0) (fun _ _ _ _ _ => True) (fun _ U o U' => ∃ v L, o = .returned v ∧ Q_rm0 Z j0 j1 i2 i3 wk h0 n0 v U'.heap L ∧ FrameEnd U o U' L room_1.cells room_1.slots) := by
  refine MetFree.of_bodySF (plainFor_of_name own_pn0) hisR ?_
  intro p e s m args below meth c s₁ Bd hml0 hP hK
  obtain ⟨rfl, hZ, hh⟩ := hP
  have hx := Bd.exec
  have hby := Bd.bytes
  have hml : c.maxLocals = 15 := hml0
  have hown : s.vm.findClass "com/example/palaver/palaver/protocol/FlapLoginRoastPinLaw" = some m.cls := findClass_of_methodNamed Bd.named
  have hnm := (name_of_methodNamed Bd.named Bd.method).1
  have X0 : Stand p l e room_1 s m #[(.long j0), (.long j1), (.int i2), (.int i3)] below meth c s₁ [] 0 0 := Stand.of_body Bd
  have e0 : s₁.heap = h0 := by rw [← hh, Bd.state]; rfl
  show own_Go p e below (s₁.setTop (entryFrame m #[(.long j0), (.long j1), (.int i2), (.int i3)] maxLocals)) (fun t o => ∃ v L, o = .returned v ∧ Q_rm0 Z j0 j1 i2 i3 wk h0 n0 v t.heap L ∧ FrameEnd s o t L room_1.cells room_1.slots)
  refine own_by (B := s₁.setTop (mkF m 0 #[.val (.long j0), .second, .val (.long j1), .second, .val (.int i2), .val (.int i3), .unset, .unset, .unset, .unset, .unset, .unset, .unset, .unset, .unset] [])) (fun t k => castTop (ef_rm0 m j0 j1 i2 i3) k) ?_
  have Nf := Fr.nil n0
  have Zs := Z0
  refine own_by (B := s₁.setTop (mkF m 2 #[.val (.long j0), .second, .val (.long j1), .second, .val (.int i2), .val (.int i3), .unset, .unset, .unset, .unset, .unset, .unset, .unset, .unset, .unset] [(.int (16 : Int32))])) (fun t k => XS.bipush X0.here hx rfl (hb hby at_0) k) ?_
  obtain ⟨T1, h1, k1, X1, e1, E1, A1, st1⟩ := newP X0 hx hZ (hw _ (List.mem_of_getElem? (i := 0) rfl)) e0 (g := (mkF m 2 #[.val (.long j0), .second, .val (.long j1), .second, .val (.int i2), .val (.int i3), .unset, .unset, .unset, .unset, .unset, .unset, .unset, .unset, .unset] [(.int (16 : Int32))])) rfl (hb hby at_2) rfl (by decide) (cap := 16) (by decide) (by decide) (by decide) (by decide)
  obtain ⟨b1, gq1⟩ : ∃ z, z = h0.size := ⟨_, rfl⟩
  rw [← gq1] at A1 st1
  have ne_wk_b1 : wk ≠ b1 := Nat.ne_of_lt (Nat.lt_of_lt_of_le V_wk.lt (Nat.le_of_eq gq1.symm))
  have g_b1 : n0 ≤ b1 := Nat.le_trans Zs (Nat.le_of_eq gq1.symm)
  have V_wk := V_wk.ext E1
  have S_KEY := S_KEY.ext E1
  have Zs := Nat.le_trans Zs E1.1
  have V_b1 := own_Arf.new A1 (by decide)
  refine own_by (B := T1.setTop (mkF m 4 #[.val (.long j0), .second, .val (.long j1), .second, .val (.int i2), .val (.int i3), .unset, .unset, .unset, .unset, .unset, .unset, .unset, .unset, .unset] [(.ref b1)])) st1 ?_
  refine own_by (B := T1.setTop (mkF m 5 #[.val (.long j0), .second, .val (.long j1), .second, .val (.int i2), .val (.int i3), .unset, .unset, .unset, .unset, .unset, .unset, .unset, .unset, .unset] [(.ref b1), (.ref b1)])) (fun t k => XS.dup X1.here hx rfl (hb hby at_4) rfl rfl k) ?_
  refine own_by (B := T1.setTop (mkF m 6 #[.val (.long j0), .second, .val (.long j1), .second, .val (.int i2), .val (.int i3), .unset, .unset, .unset, .unset, .unset, .unset, .unset, .unset, .unset] [(.int (0 : Int32)), (.ref b1), (.ref b1)])) (fun t k => XS.iconst X1.here hx rfl (hb hby at_5) k) ?_
  refine own_by (B := T1.setTop (mkF m 8 #[.val (.long j0), .second, .val (.long j1), .second, .val (.int i2), .val (.int i3), .unset, .unset, .unset, .unset, .unset, .unset, .unset, .unset, .unset] [(.int (-13 : Int32)), (.int (0 : Int32)), (.ref b1), (.ref b1)])) (fun t k => XS.bipush X1.here hx rfl (hb hby at_6) k) ?_
  obtain ⟨cl2, Ar2, hin2, -⟩ := V_b1.at (j := (0 : Int32)) ⟨by decide, by decide⟩
  obtain ⟨T2, h2, X2, e2, W2, st2⟩ := stB X1 hx hZ e1 Ar2 (j := (0 : Int32)) hin2 (g := (mkF m 8 #[.val (.long j0), .second, .val (.long j1), .second, .val (.int i2), .val (.int i3), .unset, .unset, .unset, .unset, .unset, .unset, .unset, .unset, .unset] [(.int (-13 : Int32)), (.int (0 : Int32)), (.ref b1), (.ref b1)])) rfl rfl (hb hby at_8)
  have V_wk := V_wk.other W2 ne_wk_b1
  have S_KEY := S_KEY.wr W2
  have V_b1 := V_b1.set W2
  have Zs : n0 ≤ h2.size := by rw [W2.size]; exact Zs
  have Nf := Fr.snoc X2 Nf g_b1
  obtain ⟨LhX2, X2, Nf⟩ := own_hide X2 Nf
  refine own_by (B := T2.setTop (mkF m 9 #[.val (.long j0), .second, .val (.long j1), .second, .val (.int i2), .val (.int i3), .unset, .unset, .unset, .unset, .unset, .unset, .unset, .unset, .unset] [(.ref b1)])) st2 ?_
  refine own_by (B := T2.setTop (mkF m 10 #[.val (.long j0), .second, .val (.long j1), .second, .val (.int i2), .val (.int i3), .unset, .unset, .unset, .unset, .unset, .unset, .unset, .unset, .unset] [(.ref b1), (.ref b1)])) (fun t k => XS.dup X2.here hx rfl (hb hby at_9) rfl rfl k) ?_
  refine own_by (B := T2.setTop (mkF m 11 #[.val (.long j0), .second, .val (.long j1), .second, .val (.int i2), .val (.int i3), .unset, .unset, .unset, .unset, .unset, .unset, .unset, .unset, .unset] [(.int (1 : Int32)), (.ref b1), (.ref b1)])) (fun t k => XS.iconst X2.here hx rfl (hb hby at_10) k) ?_
  refine own_by (B := T2.setTop (mkF m 13 #[.val (.long j0), .second, .val (.long j1), .second, .val (.int i2), .val (.int i3), .unset, .unset, .unset, .unset, .unset, .unset, .unset, .unset, .unset] [(.int (38 : Int32)), (.int (1 : Int32)), (.ref b1), (.ref b1)])) (fun t k => XS.bipush X2.here hx rfl (hb hby at_11) k) ?_
  obtain ⟨cl3, Ar3, hin3, -⟩ := V_b1.at (j := (1 : Int32)) ⟨by decide, by decide⟩
  obtain ⟨T3, h3, X3, e3, W3, st3⟩ := stB X2 hx hZ e2 Ar3 (j := (1 : Int32)) hin3 (g := (mkF m 13 #[.val (.long j0), .second, .val (.long j1), .second, .val (.int i2), .val (.int i3), .unset, .unset, .unset, .unset, .unset, .unset, .unset, .unset, .unset] [(.int (38 : Int32)), (.int (1 : Int32)), (.ref b1), (.ref b1)])) rfl rfl (hb hby at_13)
  have V_wk := V_wk.other W3 ne_wk_b1
  have S_KEY := S_KEY.wr W3
  have V_b1 := V_b1.set W3
  have Zs : n0 ≤ h3.size := by rw [W3.size]; exact Zs
  have Nf := Fr.snoc X3 Nf g_b1
  obtain ⟨LhX3, X3, Nf⟩ := own_hide X3 Nf
  refine own_by (B := T3.setTop (mkF m 14 #[.val (.long j0), .second, .val (.long j1), .second, .val (.int i2), .val (.int i3), .unset, .unset, .unset, .unset, .unset, .unset, .unset, .unset, .unset] [(.ref b1)])) st3 ?_
  refine own_by (B := T3.setTop (mkF m 15 #[.val (.long j0), .second, .val (.long j1), .second, .val (.int i2), .val (.int i3), .unset, .unset, .unset, .unset, .unset, .unset, .unset, .unset, .unset] [(.ref b1), (.ref b1)])) (fun t k => XS.dup X3.here hx rfl (hb hby at_14) rfl rfl k) ?_
  refine own_by (B := T3.setTop (mkF m 16 #[.val (.long j0), .second, .val (.long j1), .second, .val (.int i2), .val (.int i3), .unset, .unset, .unset, .unset, .unset, .unset, .unset, .unset, .unset] [(.int (2 : Int32)), (.ref b1), (.ref b1)])) (fun t k => XS.iconst X3.here hx rfl (hb hby at_15) k) ?_
  refine own_by (B := T3.setTop (mkF m 18 #[.val (.long j0), .second, .val (.long j1), .second, .val (.int i2), .val (.int i3), .unset, .unset, .unset, .unset, .unset, .unset, .unset, .unset, .unset] [(.int (-127 : Int32)), (.int (2 : Int32)), (.ref b1), (.ref b1)])) (fun t k => XS.bipush X3.here hx rfl (hb hby at_16) k) ?_
  obtain ⟨cl4, Ar4, hin4, -⟩ := V_b1.at (j := (2 : Int32)) ⟨by decide, by decide⟩
  obtain ⟨T4, h4, X4, e4, W4, st4⟩ := stB X3 hx hZ e3 Ar4 (j := (2 : Int32)) hin4 (g := (mkF m 18 #[.val (.long j0), .second, .val (.long j1), .second, .val (.int i2), .val (.int i3), .unset, .unset, .unset, .unset, .unset, .unset, .unset, .unset, .unset] [(.int (-127 : Int32)), (.int (2 : Int32)), (.ref b1), (.ref b1)])) rfl rfl (hb hby at_18)
  have V_wk := V_wk.other W4 ne_wk_b1
  have S_KEY := S_KEY.wr W4
  have V_b1 := V_b1.set W4
  have Zs : n0 ≤ h4.size := by rw [W4.size]; exact Zs
  have Nf := Fr.snoc X4 Nf g_b1
  obtain ⟨LhX4, X4, Nf⟩ := own_hide X4 Nf
  refine own_by (B := T4.setTop (mkF m 19 #[.val (.long j0), .second, .val (.long j1), .second, .val (.int i2), .val (.int i3), .unset, .unset, .unset, .unset, .unset, .unset, .unset, .unset, .unset] [(.ref b1)])) st4 ?_
  refine own_by (B := T4.setTop (mkF m 20 #[.val (.long j0), .second, .val (.long j1), .second, .val (.int i2), .val (.int i3), .unset, .unset, .unset, .unset, .unset, .unset, .unset, .unset, .unset] [(.ref b1), (.ref b1)])) (fun t k => XS.dup X4.here hx rfl (hb hby at_19) rfl rfl k) ?_
  refine own_by (B := T4.setTop (mkF m 21 #[.val (.long j0), .second, .val (.long j1), .second, .val (.int i2), .val (.int i3), .unset, .unset, .unset, .unset, .unset, .unset, .unset, .unset, .unset] [(.int (3 : Int32)), (.ref b1), (.ref b1)])) (fun t k => XS.iconst X4.here hx rfl (hb hby at_20) k) ?_
  refine own_by (B := T4.setTop (mkF m 23 #[.val (.long j0), .second, .val (.long j1), .second, .val (.int i2), .val (.int i3), .unset, .unset, .unset, .unset, .unset, .unset, .unset, .unset, .unset] [(.int (-60 : Int32)), (.int (3 : Int32)), (.ref b1), (.ref b1)])) (fun t k => XS.bipush X4.here hx rfl (hb hby at_21) k) ?_
  obtain ⟨cl5, Ar5, hin5, -⟩ := V_b1.at (j := (3 : Int32)) ⟨by decide, by decide⟩
  obtain ⟨T5, h5, X5, e5, W5, st5⟩ := stB X4 hx hZ e4 Ar5 (j := (3 : Int32)) hin5 (g := (mkF m 23 #[.val (.long j0), .second, .val (.long j1), .second, .val (.int i2), .val (.int i3), .unset, .unset, .unset, .unset, .unset, .unset, .unset, .unset, .unset] [(.int (-60 : Int32)), (.int (3 : Int32)), (.ref b1), (.ref b1)])) rfl rfl (hb hby at_23)
  have V_wk := V_wk.other W5 ne_wk_b1
  have S_KEY := S_KEY.wr W5
  have V_b1 := V_b1.set W5
  have Zs : n0 ≤ h5.size := by rw [W5.size]; exact Zs
  have Nf := Fr.snoc X5 Nf g_b1
  obtain ⟨LhX5, X5, Nf⟩ := own_hide X5 Nf
  refine own_by (B := T5.setTop (mkF m 24 #[.val (.long j0), .second, .val (.long j1), .second, .val (.int i2), .val (.int i3), .unset, .unset, .unset, .unset, .unset, .unset, .unset, .unset, .unset] [(.ref b1)])) st5 ?_
  refine own_by (B := T5.setTop (mkF m 25 #[.val (.long j0), .second, .val (.long j1), .second, .val (.int i2), .val (.int i3), .unset, .unset, .unset, .unset, .unset, .unset, .unset, .unset, .unset] [(.ref b1), (.ref b1)])) (fun t k => XS.dup X5.here hx rfl (hb hby at_24) rfl rfl k) ?_
  refine own_by (B := T5.setTop (mkF m 26 #[.val (.long j0), .second, .val (.long j1), .second, .val (.int i2), .val (.int i3), .unset, .unset, .unset, .unset, .unset, .unset, .unset, .unset, .unset] [(.int (4 : Int32)), (.ref b1), (.ref b1)])) (fun t k => XS.iconst X5.here hx rfl (hb hby at_25) k) ?_
  refine own_by (B := T5.setTop (mkF m 28 #[.val (.long j0), .second, .val (.long j1), .second, .val (.int i2), .val (.int i3), .unset, .unset, .unset, .unset, .unset, .unset, .unset, .unset, .unset] [(.int (57 : Int32)), (.int (4 : Int32)), (.ref b1), (.ref b1)])) (fun t k => XS.bipush X5.here hx rfl (hb hby at_26) k) ?_
  obtain ⟨cl6, Ar6, hin6, -⟩ := V_b1.at (j := (4 : Int32)) ⟨by decide, by decide⟩
  obtain ⟨T6, h6, X6, e6, W6, st6⟩ := stB X5 hx hZ e5 Ar6 (j := (4 : Int32)) hin6 (g := (mkF m 28 #[.val (.long j0), .second, .val (.long j1), .second, .val (.int i2), .val (.int i3), .unset, .unset, .unset, .unset, .unset, .unset, .unset, .unset, .unset] [(.int (57 : Int32)), (.int (4 : Int32)), (.ref b1), (.ref b1)])) rfl rfl (hb hby at_28)
  have V_wk := V_wk.other W6 ne_wk_b1
  have S_KEY := S_KEY.wr W6
  have V_b1 := V_b1.set W6
  have Zs : n0 ≤ h6.size := by rw [W6.size]; exact Zs
  have Nf := Fr.snoc X6 Nf g_b1
  obtain ⟨LhX6, X6, Nf⟩ := own_hide X6 Nf
  refine own_by (B := T6.setTop (mkF m 29 #[.val (.long j0), .second, .val (.long j1), .second, .val (.int i2), .val (.int i3), .unset, .unset, .unset, .unset, .unset, .unset, .unset, .unset, .unset] [(.ref b1)])) st6 ?_
  refine own_by (B := T6.setTop (mkF m 30 #[.val (.long j0), .second, .val (.long j1), .second, .val (.int i2), .val (.int i3), .unset, .unset, .unset, .unset, .unset, .unset, .unset, .unset, .unset] [(.ref b1), (.ref b1)])) (fun t k => XS.dup X6.here hx rfl (hb hby at_29) rfl rfl k) ?_
  refine own_by (B := T6.setTop (mkF m 31 #[.val (.long j0), .second, .val (.long j1), .second, .val (.int i2), .val (.int i3), .unset, .unset, .unset, .unset, .unset, .unset, .unset, .unset, .unset] [(.int (5 : Int32)), (.ref b1), (.ref b1)])) (fun t k => XS.iconst X6.here hx rfl (hb hby at_30) k) ?_
  refine own_by (B := T6.setTop (mkF m 33 #[.val (.long j0), .second, .val (.long j1), .second, .val (.int i2), .val (.int i3), .unset, .unset, .unset, .unset, .unset, .unset, .unset, .unset, .unset] [(.int (-122 : Int32)), (.int (5 : Int32)), (.ref b1), (.ref b1)])) (fun t k => XS.bipush X6.here hx rfl (hb hby at_31) k) ?_
  obtain ⟨cl7, Ar7, hin7, -⟩ := V_b1.at (j := (5 : Int32)) ⟨by decide, by decide⟩
  obtain ⟨T7, h7, X7, e7, W7, st7⟩ := stB X6 hx hZ e6 Ar7 (j := (5 : Int32)) hin7 (g := (mkF m 33 #[.val (.long j0), .second, .val (.long j1), .second, .val (.int i2), .val (.int i3), .unset, .unset, .unset, .unset, .unset, .unset, .unset, .unset, .unset] [(.int (-122 : Int32)), (.int (5 : Int32)), (.ref b1), (.ref b1)])) rfl rfl (hb hby at_33)
  have V_wk := V_wk.other W7 ne_wk_b1
  have S_KEY := S_KEY.wr W7
  have V_b1 := V_b1.set W7
  have Zs : n0 ≤ h7.size := by rw [W7.size]; exact Zs
  have Nf := Fr.snoc X7 Nf g_b1
  obtain ⟨LhX7, X7, Nf⟩ := own_hide X7 Nf
  refine own_by (B := T7.setTop (mkF m 34 #[.val (.long j0), .second, .val (.long j1), .second, .val (.int i2), .val (.int i3), .unset, .unset, .unset, .unset, .unset, .unset, .unset, .unset, .unset] [(.ref b1)])) st7 ?_
  refine own_by (B := T7.setTop (mkF m 35 #[.val (.long j0), .second, .val (.long j1), .second, .val (.int i2), .val (.int i3), .unset, .unset, .unset, .unset, .unset, .unset, .unset, .unset, .unset] [(.ref b1), (.ref b1)])) (fun t k => XS.dup X7.here hx rfl (hb hby at_34) rfl rfl k) ?_
  refine own_by (B := T7.setTop (mkF m 37 #[.val (.long j0), .second, .val (.long j1), .second, .val (.int i2), .val (.int i3), .unset, .unset, .unset, .unset, .unset, .unset, .unset, .unset, .unset] [(.int (6 : Int32)), (.ref b1), (.ref b1)])) (fun t k => XS.bipush X7.here hx rfl (hb hby at_35) k) ?_
  refine own_by (B := T7.setTop (mkF m 39 #[.val (.long j0), .second, .val (.long j1), .second, .val (.int i2), .val (.int i3), .unset, .unset, .unset, .unset, .unset, .unset, .unset, .unset, .unset] [(.int (-37 : Int32)), (.int (6 : Int32)), (.ref b1), (.ref b1)])) (fun t k => XS.bipush X7.here hx rfl (hb hby at_37) k) ?_
  obtain ⟨cl8, Ar8, hin8, -⟩ := V_b1.at (j := (6 : Int32)) ⟨by decide, by decide⟩
  obtain ⟨T8, h8, X8, e8, W8, st8⟩ := stB X7 hx hZ e7 Ar8 (j := (6 : Int32)) hin8 (g := (mkF m 39 #[.val (.long j0), .second, .val (.long j1), .second, .val (.int i2), .val (.int i3), .unset, .unset, .unset, .unset, .unset, .unset, .unset, .unset, .unset] [(.int (-37 : Int32)), (.int (6 : Int32)), (.ref b1), (.ref b1)])) rfl rfl (hb hby at_39)
  have V_wk := V_wk.other W8 ne_wk_b1
  have S_KEY := S_KEY.wr W8
  have V_b1 := V_b1.set W8
  have Zs : n0 ≤ h8.size := by rw [W8.size]; exact Zs
  have Nf := Fr.snoc X8 Nf g_b1
  obtain ⟨LhX8, X8, Nf⟩ := own_hide X8 Nf
  refine own_by (B := T8.setTop (mkF m 40 #[.val (.long j0), .second, .val (.long j1), .second, .val (.int i2), .val (.int i3), .unset, .unset, .unset, .unset, .unset, .unset, .unset, .unset, .unset] [(.ref b1)])) st8 ?_
  refine own_by (B := T8.setTop (mkF m 41 #[.val (.long j0), .second, .val (.long j1), .second, .val (.int i2), .val (.int i3), .unset, .unset, .unset, .unset, .unset, .unset, .unset, .unset, .unset] [(.ref b1), (.ref b1)])) (fun t k => XS.dup X8.here hx rfl (hb hby at_40) rfl rfl k) ?_
  refine own_by (B := T8.setTop (mkF m 43 #[.val (.long j0), .second, .val (.long j1), .second, .val (.int i2), .val (.int i3), .unset, .unset, .unset, .unset, .unset, .unset, .unset, .unset, .unset] [(.int (7 : Int32)), (.ref b1), (.ref b1)])) (fun t k => XS.bipush X8.here hx rfl (hb hby at_41) k) ?_
  refine own_by (B := T8.setTop (mkF m 45 #[.val (.long j0), .second, .val (.long j1), .second, .val (.int i2), .val (.int i3), .unset, .unset, .unset, .unset, .unset, .unset, .unset, .unset, .unset] [(.int (-110 : Int32)), (.int (7 : Int32)), (.ref b1), (.ref b1)])) (fun t k => XS.bipush X8.here hx rfl (hb hby at_43) k) ?_
  obtain ⟨cl9, Ar9, hin9, -⟩ := V_b1.at (j := (7 : Int32)) ⟨by decide, by decide⟩
  obtain ⟨T9, h9, X9, e9, W9, st9⟩ := stB X8 hx hZ e8 Ar9 (j := (7 : Int32)) hin9 (g := (mkF m 45 #[.val (.long j0), .second, .val (.long j1), .second, .val (.int i2), .val (.int i3), .unset, .unset, .unset, .unset, .unset, .unset, .unset, .unset, .unset] [(.int (-110 : Int32)), (.int (7 : Int32)), (.ref b1), (.ref b1)])) rfl rfl (hb hby at_45)
  have V_wk := V_wk.other W9 ne_wk_b1
  have S_KEY := S_KEY.wr W9
  have V_b1 := V_b1.set W9
  have Zs : n0 ≤ h9.size := by rw [W9.size]; exact Zs
  have Nf := Fr.snoc X9 Nf g_b1
  obtain ⟨LhX9, X9, Nf⟩ := own_hide X9 Nf
  refine own_by (B := T9.setTop (mkF m 46 #[.val (.long j0), .second, .val (.long j1), .second, .val (.int i2), .val (.int i3), .unset, .unset, .unset, .unset, .unset, .unset, .unset, .unset, .unset] [(.ref b1)])) st9 ?_
  refine own_by (B := T9.setTop (mkF m 47 #[.val (.long j0), .second, .val (.long j1), .second, .val (.int i2), .val (.int i3), .unset, .unset, .unset, .unset, .unset, .unset, .unset, .unset, .unset] [(.ref b1), (.ref b1)])) (fun t k => XS.dup X9.here hx rfl (hb hby at_46) rfl rfl k) ?_
  refine own_by (B := T9.setTop (mkF m 49 #[.val (.long j0), .second, .val (.long j1), .second, .val (.int i2), .val (.int i3), .unset, .unset, .unset, .unset, .unset, .unset, .unset, .unset, .unset] [(.int (8 : Int32)), (.ref b1), (.ref b1)])) (fun t k => XS.bipush X9.here hx rfl (hb hby at_47) k) ?_
  refine own_by (B := T9.setTop (mkF m 51 #[.val (.long j0), .second, .val (.long j1), .second, .val (.int i2), .val (.int i3), .unset, .unset, .unset, .unset, .unset, .unset, .unset, .unset, .unset] [(.int (113 : Int32)), (.int (8 : Int32)), (.ref b1), (.ref b1)])) (fun t k => XS.bipush X9.here hx rfl (hb hby at_49) k) ?_
  obtain ⟨cl10, Ar10, hin10, -⟩ := V_b1.at (j := (8 : Int32)) ⟨by decide, by decide⟩
  obtain ⟨T10, h10, X10, e10, W10, st10⟩ := stB X9 hx hZ e9 Ar10 (j := (8 : Int32)) hin10 (g := (mkF m 51 #[.val (.long j0), .second, .val (.long j1), .second, .val (.int i2), .val (.int i3), .unset, .unset, .unset, .unset, .unset, .unset, .unset, .unset, .unset] [(.int (113 : Int32)), (.int (8 : Int32)), (.ref b1), (.ref b1)])) rfl rfl (hb hby at_51)
  have V_wk := V_wk.other W10 ne_wk_b1
  have S_KEY := S_KEY.wr W10
  have V_b1 := V_b1.set W10
  have Zs : n0 ≤ h10.size := by rw [W10.size]; exact Zs
  have Nf := Fr.snoc X10 Nf g_b1
  obtain ⟨LhX10, X10, Nf⟩ := own_hide X10 Nf
  refine own_by (B := T10.setTop (mkF m 52 #[.val (.long j0), .second, .val (.long j1), .second, .val (.int i2), .val (.int i3), .unset, .unset, .unset, .unset, .unset, .unset, .unset, .unset, .unset] [(.ref b1)])) st10 ?_
  refine own_by (B := T10.setTop (mkF m 53 #[.val (.long j0), .second, .val (.long j1), .second, .val (.int i2), .val (.int i3), .unset, .unset, .unset, .unset, .unset, .unset, .unset, .unset, .unset] [(.ref b1), (.ref b1)])) (fun t k => XS.dup X10.here hx rfl (hb hby at_52) rfl rfl k) ?_
  refine own_by (B := T10.setTop (mkF m 55 #[.val (.long j0), .second, .val (.long j1), .second, .val (.int i2), .val (.int i3), .unset, .unset, .unset, .unset, .unset, .unset, .unset, .unset, .unset] [(.int (9 : Int32)), (.ref b1), (.ref b1)])) (fun t k => XS.bipush X10.here hx rfl (hb hby at_53) k) ?_
  refine own_by (B := T10.setTop (mkF m 57 #[.val (.long j0), .second, .val (.long j1), .second, .val (.int i2), .val (.int i3), .unset, .unset, .unset, .unset, .unset, .unset, .unset, .unset, .unset] [(.int (-93 : Int32)), (.int (9 : Int32)), (.ref b1), (.ref b1)])) (fun t k => XS.bipush X10.here hx rfl (hb hby at_55) k) ?_
  obtain ⟨cl11, Ar11, hin11, -⟩ := V_b1.at (j := (9 : Int32)) ⟨by decide, by decide⟩
  obtain ⟨T11, h11, X11, e11, W11, st11⟩ := stB X10 hx hZ e10 Ar11 (j := (9 : Int32)) hin11 (g := (mkF m 57 #[.val (.long j0), .second, .val (.long j1), .second, .val (.int i2), .val (.int i3), .unset, .unset, .unset, .unset, .unset, .unset, .unset, .unset, .unset] [(.int (-93 : Int32)), (.int (9 : Int32)), (.ref b1), (.ref b1)])) rfl rfl (hb hby at_57)
  have V_wk := V_wk.other W11 ne_wk_b1
  have S_KEY := S_KEY.wr W11
  have V_b1 := V_b1.set W11
  have Zs : n0 ≤ h11.size := by rw [W11.size]; exact Zs
  have Nf := Fr.snoc X11 Nf g_b1
  obtain ⟨LhX11, X11, Nf⟩ := own_hide X11 Nf
  refine own_by (B := T11.setTop (mkF m 58 #[.val (.long j0), .second, .val (.long j1), .second, .val (.int i2), .val (.int i3), .unset, .unset, .unset, .unset, .unset, .unset, .unset, .unset, .unset] [(.ref b1)])) st11 ?_
  refine own_by (B := T11.setTop (mkF m 59 #[.val (.long j0), .second, .val (.long j1), .second, .val (.int i2), .val (.int i3), .unset, .unset, .unset, .unset, .unset, .unset, .unset, .unset, .unset] [(.ref b1), (.ref b1)])) (fun t k => XS.dup X11.here hx rfl (hb hby at_58) rfl rfl k) ?_
  refine own_by (B := T11.setTop (mkF m 61 #[.val (.long j0), .second, .val (.long j1), .second, .val (.int i2), .val (.int i3), .unset, .unset, .unset, .unset, .unset, .unset, .unset, .unset, .unset] [(.int (10 : Int32)), (.ref b1), (.ref b1)])) (fun t k => XS.bipush X11.here hx rfl (hb hby at_59) k) ?_
  refine own_by (B := T11.setTop (mkF m 63 #[.val (.long j0), .second, .val (.long j1), .second, .val (.int i2), .val (.int i3), .unset, .unset, .unset, .unset, .unset, .unset, .unset, .unset, .unset] [(.int (-71 : Int32)), (.int (10 : Int32)), (.ref b1), (.ref b1)])) (fun t k => XS.bipush X11.here hx rfl (hb hby at_61) k) ?_
  obtain ⟨cl12, Ar12, hin12, -⟩ := V_b1.at (j := (10 : Int32)) ⟨by decide, by decide⟩
  obtain ⟨T12, h12, X12, e12, W12, st12⟩ := stB X11 hx hZ e11 Ar12 (j := (10 : Int32)) hin12 (g := (mkF m 63 #[.val (.long j0), .second, .val (.long j1), .second, .val (.int i2), .val (.int i3), .unset, .unset, .unset, .unset, .unset, .unset, .unset, .unset, .unset] [(.int (-71 : Int32)), (.int (10 : Int32)), (.ref b1), (.ref b1)])) rfl rfl (hb hby at_63)
  have V_wk := V_wk.other W12 ne_wk_b1
  have S_KEY := S_KEY.wr W12
  have V_b1 := V_b1.set W12
  have Zs : n0 ≤ h12.size := by rw [W12.size]; exact Zs
  have Nf := Fr.snoc X12 Nf g_b1
  obtain ⟨LhX12, X12, Nf⟩ := own_hide X12 Nf
  refine own_by (B := T12.setTop (mkF m 64 #[.val (.long j0), .second, .val (.long j1), .second, .val (.int i2), .val (.int i3), .unset, .unset, .unset, .unset, .unset, .unset, .unset, .unset, .unset] [(.ref b1)])) st12 ?_
  refine own_by (B := T12.setTop (mkF m 65 #[.val (.long j0), .second, .val (.long j1), .second, .val (.int i2), .val (.int i3), .unset, .unset, .unset, .unset, .unset, .unset, .unset, .unset, .unset] [(.ref b1), (.ref b1)])) (fun t k => XS.dup X12.here hx rfl (hb hby at_64) rfl rfl k) ?_
  refine own_by (B := T12.setTop (mkF m 67 #[.val (.long j0), .second, .val (.long j1), .second, .val (.int i2), .val (.int i3), .unset, .unset, .unset, .unset, .unset, .unset, .unset, .unset, .unset] [(.int (11 : Int32)), (.ref b1), (.ref b1)])) (fun t k => XS.bipush X12.here hx rfl (hb hby at_65) k) ?_
  refine own_by (B := T12.setTop (mkF m 69 #[.val (.long j0), .second, .val (.long j1), .second, .val (.int i2), .val (.int i3), .unset, .unset, .unset, .unset, .unset, .unset, .unset, .unset, .unset] [(.int (-26 : Int32)), (.int (11 : Int32)), (.ref b1), (.ref b1)])) (fun t k => XS.bipush X12.here hx rfl (hb hby at_67) k) ?_
  obtain ⟨cl13, Ar13, hin13, -⟩ := V_b1.at (j := (11 : Int32)) ⟨by decide, by decide⟩
  obtain ⟨T13, h13, X13, e13, W13, st13⟩ := stB X12 hx hZ e12 Ar13 (j := (11 : Int32)) hin13 (g := (mkF m 69 #[.val (.long j0), .second, .val (.long j1), .second, .val (.int i2), .val (.int i3), .unset, .unset, .unset, .unset, .unset, .unset, .unset, .unset, .unset] [(.int (-26 : Int32)), (.int (11 : Int32)), (.ref b1), (.ref b1)])) rfl rfl (hb hby at_69)
  have V_wk := V_wk.other W13 ne_wk_b1
  have S_KEY := S_KEY.wr W13
  have V_b1 := V_b1.set W13
  have Zs : n0 ≤ h13.size := by rw [W13.size]; exact Zs
  have Nf := Fr.snoc X13 Nf g_b1
  obtain ⟨LhX13, X13, Nf⟩ := own_hide X13 Nf
  refine own_by (B := T13.setTop (mkF m 70 #[.val (.long j0), .second, .val (.long j1), .second, .val (.int i2), .val (.int i3), .unset, .unset, .unset, .unset, .unset, .unset, .unset, .unset, .unset] [(.ref b1)])) st13 ?_
  refine own_by (B := T13.setTop (mkF m 71 #[.val (.long j0), .second, .val (.long j1), .second, .val (.int i2), .val (.int i3), .unset, .unset, .unset, .unset, .unset, .unset, .unset, .unset, .unset] [(.ref b1), (.ref b1)])) (fun t k => XS.dup X13.here hx rfl (hb hby at_70) rfl rfl k) ?_
  refine own_by (B := T13.setTop (mkF m 73 #[.val (.long j0), .second, .val (.long j1), .second, .val (.int i2), .val (.int i3), .unset, .unset, .unset, .unset, .unset, .unset, .unset, .unset, .unset] [(.int (12 : Int32)), (.ref b1), (.ref b1)])) (fun t k => XS.bipush X13.here hx rfl (hb hby at_71) k) ?_
  refine own_by (B := T13.setTop (mkF m 75 #[.val (.long j0), .second, .val (.long j1), .second, .val (.int i2), .val (.int i3), .unset, .unset, .unset, .unset, .unset, .unset, .unset, .unset, .unset] [(.int (83 : Int32)), (.int (12 : Int32)), (.ref b1), (.ref b1)])) (fun t k => XS.bipush X13.here hx rfl (hb hby at_73) k) ?_
  obtain ⟨cl14, Ar14, hin14, -⟩ := V_b1.at (j := (12 : Int32)) ⟨by decide, by decide⟩
  obtain ⟨T14, h14, X14, e14, W14, st14⟩ := stB X13 hx hZ e13 Ar14 (j := (12 : Int32)) hin14 (g := (mkF m 75 #[.val (.long j0), .second, .val (.long j1), .second, .val (.int i2), .val (.int i3), .unset, .unset, .unset, .unset, .unset, .unset, .unset, .unset, .unset] [(.int (83 : Int32)), (.int (12 : Int32)), (.ref b1), (.ref b1)])) rfl rfl (hb hby at_75)
  have V_wk := V_wk.other W14 ne_wk_b1
  have S_KEY := S_KEY.wr W14
  have V_b1 := V_b1.set W14
  have Zs : n0 ≤ h14.size := by rw [W14.size]; exact Zs
  have Nf := Fr.snoc X14 Nf g_b1
  obtain ⟨LhX14, X14, Nf⟩ := own_hide X14 Nf
  refine own_by (B := T14.setTop (mkF m 76 #[.val (.long j0), .second, .val (.long j1), .second, .val (.int i2), .val (.int i3), .unset, .unset, .unset, .unset, .unset, .unset, .unset, .unset, .unset] [(.ref b1)])) st14 ?_
  refine own_by (B := T14.setTop (mkF m 77 #[.val (.long j0), .second, .val (.long j1), .second, .val (.int i2), .val (.int i3), .unset, .unset, .unset, .unset, .unset, .unset, .unset, .unset, .unset] [(.ref b1), (.ref b1)])) (fun t k => XS.dup X14.here hx rfl (hb hby at_76) rfl rfl k) ?_
  refine own_by (B := T14.setTop (mkF m 79 #[.val (.long j0), .second, .val (.long j1), .second, .val (.int i2), .val (.int i3), .unset, .unset, .unset, .unset, .unset, .unset, .unset, .unset, .unset] [(.int (13 : Int32)), (.ref b1), (.ref b1)])) (fun t k => XS.bipush X14.here hx rfl (hb hby at_77) k) ?_
  refine own_by (B := T14.setTop (mkF m 81 #[.val (.long j0), .second, .val (.long j1), .second, .val (.int i2), .val (.int i3), .unset, .unset, .unset, .unset, .unset, .unset, .unset, .unset, .unset] [(.int (122 : Int32)), (.int (13 : Int32)), (.ref b1), (.ref b1)])) (fun t k => XS.bipush X14.here hx rfl (hb hby at_79) k) ?_
  obtain ⟨cl15, Ar15, hin15, -⟩ := V_b1.at (j := (13 : Int32)) ⟨by decide, by decide⟩
  obtain ⟨T15, h15, X15, e15, W15, st15⟩ := stB X14 hx hZ e14 Ar15 (j := (13 : Int32)) hin15 (g := (mkF m 81 #[.val (.long j0), .second, .val (.long j1), .second, .val (.int i2), .val (.int i3), .unset, .unset, .unset, .unset, .unset, .unset, .unset, .unset, .unset] [(.int (122 : Int32)), (.int (13 : Int32)), (.ref b1), (.ref b1)])) rfl rfl (hb hby at_81)
  have V_wk := V_wk.other W15 ne_wk_b1
  have S_KEY := S_KEY.wr W15
  have V_b1 := V_b1.set W15
  have Zs : n0 ≤ h15.size := by rw [W15.size]; exact Zs
  have Nf := Fr.snoc X15 Nf g_b1
  obtain ⟨LhX15, X15, Nf⟩ := own_hide X15 Nf
  refine own_by (B := T15.setTop (mkF m 82 #[.val (.long j0), .second, .val (.long j1), .second, .val (.int i2), .val (.int i3), .unset, .unset, .unset, .unset, .unset, .unset, .unset, .unset, .unset] [(.ref b1)])) st15 ?_
  refine own_by (B := T15.setTop (mkF m 83 #[.val (.long j0), .second, .val (.long j1), .second, .val (.int i2), .val (.int i3), .unset, .unset, .unset, .unset, .unset, .unset, .unset, .unset, .unset] [(.ref b1), (.ref b1)])) (fun t k => XS.dup X15.here hx rfl (hb hby at_82) rfl rfl k) ?_
  refine own_by (B := T15.setTop (mkF m 85 #[.val (.long j0), .second, .val (.long j1), .second, .val (.int i2), .val (.int i3), .unset, .unset, .unset, .unset, .unset, .unset, .unset, .unset, .unset] [(.int (14 : Int32)), (.ref b1), (.ref b1)])) (fun t k => XS.bipush X15.here hx rfl (hb hby at_83) k) ?_
  refine own_by (B := T15.setTop (mkF m 87 #[.val (.long j0), .second, .val (.long j1), .second, .val (.int i2), .val (.int i3), .unset, .unset, .unset, .unset, .unset, .unset, .unset, .unset, .unset] [(.int (-107 : Int32)), (.int (14 : Int32)), (.ref b1), (.ref b1)])) (fun t k => XS.bipush X15.here hx rfl (hb hby at_85) k) ?_
  obtain ⟨cl16, Ar16, hin16, -⟩ := V_b1.at (j := (14 : Int32)) ⟨by decide, by decide⟩
  obtain ⟨T16, h16, X16, e16, W16, st16⟩ := stB X15 hx hZ e15 Ar16 (j := (14 : Int32)) hin16 (g := (mkF m 87 #[.val (.long j0), .second, .val (.long j1), .second, .val (.int i2), .val (.int i3), .unset, .unset, .unset, .unset, .unset, .unset, .unset, .unset, .unset] [(.int (-107 : Int32)), (.int (14 : Int32)), (.ref b1), (.ref b1)])) rfl rfl (hb hby at_87)
  have V_wk := V_wk.other W16 ne_wk_b1
  have S_KEY := S_KEY.wr W16
  have V_b1 := V_b1.set W16
  have Zs : n0 ≤ h16.size := by rw [W16.size]; exact Zs
  have Nf := Fr.snoc X16 Nf g_b1
  obtain ⟨LhX16, X16, Nf⟩ := own_hide X16 Nf
  refine own_by (B := T16.setTop (mkF m 88 #[.val (.long j0), .second, .val (.long j1), .second, .val (.int i2), .val (.int i3), .unset, .unset, .unset, .unset, .unset, .unset, .unset, .unset, .unset] [(.ref b1)])) st16 ?_
  refine own_by (B := T16.setTop (mkF m 89 #[.val (.long j0), .second, .val (.long j1), .second, .val (.int i2), .val (.int i3), .unset, .unset, .unset, .unset, .unset, .unset, .unset, .unset, .unset] [(.ref b1), (.ref b1)])) (fun t k => XS.dup X16.here hx rfl (hb hby at_88) rfl rfl k) ?_
  refine own_by (B := T16.setTop (mkF m 91 #[.val (.long j0), .second, .val (.long j1), .second, .val (.int i2), .val (.int i3), .unset, .unset, .unset, .unset, .unset, .unset, .unset, .unset, .unset] [(.int (15 : Int32)), (.ref b1), (.ref b1)])) (fun t k => XS.bipush X16.here hx rfl (hb hby at_89) k) ?_
  refine own_by (B := T16.setTop (mkF m 93 #[.val (.long j0), .second, .val (.long j1), .second, .val (.int i2), .val (.int i3), .unset, .unset, .unset, .unset, .unset, .unset, .unset, .unset, .unset] [(.int (124 : Int32)), (.int (15 : Int32)), (.ref b1), (.ref b1)])) (fun t k => XS.bipush X16.here hx rfl (hb hby at_91) k) ?_
  obtain ⟨cl17, Ar17, hin17, -⟩ := V_b1.at (j := (15 : Int32)) ⟨by decide, by decide⟩
  obtain ⟨T17, h17, X17, e17, W17, st17⟩ := stB X16 hx hZ e16 Ar17 (j := (15 : Int32)) hin17 (g := (mkF m 93 #[.val (.long j0), .second, .val (.long j1), .second, .val (.int i2), .val (.int i3), .unset, .unset, .unset, .unset, .unset, .unset, .unset, .unset, .unset] [(.int (124 : Int32)), (.int (15 : Int32)), (.ref b1), (.ref b1)])) rfl rfl (hb hby at_93)
  have V_wk := V_wk.other W17 ne_wk_b1
  have S_KEY := S_KEY.wr W17
  have V_b1 := V_b1.set W17
  have Zs : n0 ≤ h17.size := by rw [W17.size]; exact Zs
  have Nf := Fr.snoc X17 Nf g_b1
  obtain ⟨LhX17, X17, Nf⟩ := own_hide X17 Nf
  refine own_by (B := T17.setTop (mkF m 94 #[.val (.long j0), .second, .val (.long j1), .second, .val (.int i2), .val (.int i3), .unset, .unset, .unset, .unset, .unset, .unset, .unset, .unset, .unset] [(.ref b1)])) st17 ?_
  refine own_by (B := T17.setTop (mkF m 96 #[.val (.long j0), .second, .val (.long j1), .second, .val (.int i2), .val (.int i3), .val (.ref b1), .unset, .unset, .unset, .unset, .unset, .unset, .unset, .unset] [])) (fun t k => XS.astore X17.here hx rfl (hb hby at_94) rfl rfl (l' := #[.val (.long j0), .second, .val (.long j1), .second, .val (.int i2), .val (.int i3), .val (.ref b1), .unset, .unset, .unset, .unset, .unset, .unset, .unset, .unset]) rfl k) ?_
  have V_b1 := V_b1.congr (g := fun t => .int (own_key t)) (fun t ht => by
    have ht : t < 16 := ht
    rcases (show t = 0 ∨ t = 1 ∨ t = 2 ∨ t = 3 ∨ t = 4 ∨ t = 5 ∨ t = 6 ∨ t = 7 ∨ t = 8 ∨ t = 9 ∨ t = 10 ∨ t = 11 ∨ t = 12 ∨ t = 13 ∨ t = 14 ∨ t = 15 by omega) with rfl | rfl | rfl | rfl | rfl | rfl | rfl | rfl | rfl | rfl | rfl | rfl | rfl | rfl | rfl | rfl <;> rfl)
  refine own_by (B := T17.setTop (mkF m 98 #[.val (.long j0), .second, .val (.long j1), .second, .val (.int i2), .val (.int i3), .val (.ref b1), .unset, .unset, .unset, .unset, .unset, .unset, .unset, .unset] [(.int (18 : Int32))])) (fun t k => XS.bipush X17.here hx rfl (hb hby at_96) k) ?_
  obtain ⟨T18, h18, k18, X18, e18, E18, A18, st18⟩ := newP X17 hx hZ (hw _ (List.mem_of_getElem? (i := 0) rfl)) e17 (g := (mkF m 98 #[.val (.long j0), .second, .val (.long j1), .second, .val (.int i2), .val (.int i3), .val (.ref b1), .unset, .unset, .unset, .unset, .unset, .unset, .unset, .unset] [(.int (18 : Int32))])) rfl (hb hby at_98) rfl (by decide) (cap := 18) (by decide) (by decide) (by decide) (by decide)
  obtain ⟨b18, gq18⟩ : ∃ z, z = h17.size := ⟨_, rfl⟩
  rw [← gq18] at A18 st18
  have ne_wk_b18 : wk ≠ b18 := Nat.ne_of_lt (Nat.lt_of_lt_of_le V_wk.lt (Nat.le_of_eq gq18.symm))
  have ne_b1_b18 : b1 ≠ b18 := Nat.ne_of_lt (Nat.lt_of_lt_of_le V_b1.lt (Nat.le_of_eq gq18.symm))
  have g_b18 : n0 ≤ b18 := Nat.le_trans Zs (Nat.le_of_eq gq18.symm)
  have V_wk := V_wk.ext E18
  have S_KEY := S_KEY.ext E18
  have V_b1 := V_b1.ext E18
  have Zs := Nat.le_trans Zs E18.1
  have V_b18 := own_Arf.new A18 (by decide)
  refine own_by (B := T18.setTop (mkF m 100 #[.val (.long j0), .second, .val (.long j1), .second, .val (.int i2), .val (.int i3), .val (.ref b1), .unset, .unset, .unset, .unset, .unset, .unset, .unset, .unset] [(.ref b18)])) st18 ?_
  refine own_by (B := T18.setTop (mkF m 102 #[.val (.long j0), .second, .val (.long j1), .second, .val (.int i2), .val (.int i3), .val (.ref b1), .val (.ref b18), .unset, .unset, .unset, .unset, .unset, .unset, .unset] [])) (fun t k => XS.astore X18.here hx rfl (hb hby at_100) rfl rfl (l' := #[.val (.long j0), .second, .val (.long j1), .second, .val (.int i2), .val (.int i3), .val (.ref b1), .val (.ref b18), .unset, .unset, .unset, .unset, .unset, .unset, .unset]) rfl k) ?_
  refine own_by (B := T18.setTop (mkF m 104 #[.val (.long j0), .second, .val (.long j1), .second, .val (.int i2), .val (.int i3), .val (.ref b1), .val (.ref b18), .unset, .unset, .unset, .unset, .unset, .unset, .unset] [(.ref b18)])) (fun t k => XS.aload X18.here hx rfl (hb hby at_102) rfl rfl k) ?_
  refine own_by (B := T18.setTop (mkF m 105 #[.val (.long j0), .second, .val (.long j1), .second, .val (.int i2), .val (.int i3), .val (.ref b1), .val (.ref b18), .unset, .unset, .unset, .unset, .unset, .unset, .unset] [(.int (0 : Int32)), (.ref b18)])) (fun t k => XS.iconst X18.here hx rfl (hb hby at_104) k) ?_
  refine own_by (B := T18.setTop (mkF m 106 #[.val (.long j0), .second, .val (.long j1), .second, .val (.int i2), .val (.int i3), .val (.ref b1), .val (.ref b18), .unset, .unset, .unset, .unset, .unset, .unset, .unset] [(.long j0), (.int (0 : Int32)), (.ref b18)])) (fun t k => XS.lloadN X18.here hx rfl (hb hby at_105) rfl k) ?_
  refine own_by (B := T18.setTop (mkF m 107 #[.val (.long j0), .second, .val (.long j1), .second, .val (.int i2), .val (.int i3), .val (.ref b1), .val (.ref b18), .unset, .unset, .unset, .unset, .unset, .unset, .unset] [(.int (j0.toInt32)), (.int (0 : Int32)), (.ref b18)])) (fun t k => XS.l2i X18.here hx rfl (hb hby at_106) rfl k) ?_
  refine own_by (B := T18.setTop (mkF m 108 #[.val (.long j0), .second, .val (.long j1), .second, .val (.int i2), .val (.int i3), .val (.ref b1), .val (.ref b18), .unset, .unset, .unset, .unset, .unset, .unset, .unset] [(.int ((j0.toInt32).toInt8.toInt32)), (.int (0 : Int32)), (.ref b18)])) (fun t k => XS.i2b X18.here hx rfl (hb hby at_107) rfl k) ?_
  obtain ⟨cl19, Ar19, hin19, -⟩ := V_b18.at (j := (0 : Int32)) ⟨by decide, by decide⟩
  obtain ⟨T19, h19, X19, e19, W19, st19⟩ := stB X18 hx hZ e18 Ar19 (j := (0 : Int32)) hin19 (g := (mkF m 108 #[.val (.long j0), .second, .val (.long j1), .second, .val (.int i2), .val (.int i3), .val (.ref b1), .val (.ref b18), .unset, .unset, .unset, .unset, .unset, .unset, .unset] [(.int ((j0.toInt32).toInt8.toInt32)), (.int (0 : Int32)), (.ref b18)])) rfl rfl (hb hby at_108)
  have V_wk := V_wk.other W19 ne_wk_b18
  have S_KEY := S_KEY.wr W19
  have V_b1 := V_b1.other W19 ne_b1_b18
  have V_b18 := V_b18.set W19
  have Zs : n0 ≤ h19.size := by rw [W19.size]; exact Zs
  have Nf := Fr.snoc X19 Nf g_b18
  obtain ⟨LhX19, X19, Nf⟩ := own_hide X19 Nf
  refine own_by (B := T19.setTop (mkF m 109 #[.val (.long j0), .second, .val (.long j1), .second, .val (.int i2), .val (.int i3), .val (.ref b1), .val (.ref b18), .unset, .unset, .unset, .unset, .unset, .unset, .unset] [])) st19 ?_
  refine own_by (B := T19.setTop (mkF m 111 #[.val (.long j0), .second, .val (.long j1), .second, .val (.int i2), .val (.int i3), .val (.ref b1), .val (.ref b18), .unset, .unset, .unset, .unset, .unset, .unset, .unset] [(.ref b18)])) (fun t k => XS.aload X19.here hx rfl (hb hby at_109) rfl rfl k) ?_
  refine own_by (B := T19.setTop (mkF m 112 #[.val (.long j0), .second, .val (.long j1), .second, .val (.int i2), .val (.int i3), .val (.ref b1), .val (.ref b18), .unset, .unset, .unset, .unset, .unset, .unset, .unset] [(.int (1 : Int32)), (.ref b18)])) (fun t k => XS.iconst X19.here hx rfl (hb hby at_111) k) ?_
  refine own_by (B := T19.setTop (mkF m 113 #[.val (.long j0), .second, .val (.long j1), .second, .val (.int i2), .val (.int i3), .val (.ref b1), .val (.ref b18), .unset, .unset, .unset, .unset, .unset, .unset, .unset] [(.long j0), (.int (1 : Int32)), (.ref b18)])) (fun t k => XS.lloadN X19.here hx rfl (hb hby at_112) rfl k) ?_
  refine own_by (B := T19.setTop (mkF m 115 #[.val (.long j0), .second, .val (.long j1), .second, .val (.int i2), .val (.int i3), .val (.ref b1), .val (.ref b18), .unset, .unset, .unset, .unset, .unset, .unset, .unset] [(.int (8 : Int32)), (.long j0), (.int (1 : Int32)), (.ref b18)])) (fun t k => XS.bipush X19.here hx rfl (hb hby at_113) k) ?_
  refine own_by (B := T19.setTop (mkF m 116 #[.val (.long j0), .second, .val (.long j1), .second, .val (.int i2), .val (.int i3), .val (.ref b1), .val (.ref b18), .unset, .unset, .unset, .unset, .unset, .unset, .unset] [(.long ((j0.toUInt64 >>> ((8 : Int32) &&& 0x3f).toInt64.toUInt64).toInt64)), (.int (1 : Int32)), (.ref b18)])) (fun t k => XS.lushr X19.here hx rfl (hb hby at_115) rfl k) ?_
  refine own_by (B := T19.setTop (mkF m 117 #[.val (.long j0), .second, .val (.long j1), .second, .val (.int i2), .val (.int i3), .val (.ref b1), .val (.ref b18), .unset, .unset, .unset, .unset, .unset, .unset, .unset] [(.int (((j0.toUInt64 >>> ((8 : Int32) &&& 0x3f).toInt64.toUInt64).toInt64).toInt32)), (.int (1 : Int32)), (.ref b18)])) (fun t k => XS.l2i X19.here hx rfl (hb hby at_116) rfl k) ?_
  refine own_by (B := T19.setTop (mkF m 118 #[.val (.long j0), .second, .val (.long j1), .second, .val (.int i2), .val (.int i3), .val (.ref b1), .val (.ref b18), .unset, .unset, .unset, .unset, .unset, .unset, .unset] [(.int ((((j0.toUInt64 >>> ((8 : Int32) &&& 0x3f).toInt64.toUInt64).toInt64).toInt32).toInt8.toInt32)), (.int (1 : Int32)), (.ref b18)])) (fun t k => XS.i2b X19.here hx rfl (hb hby at_117) rfl k) ?_
  obtain ⟨cl20, Ar20, hin20, -⟩ := V_b18.at (j := (1 : Int32)) ⟨by decide, by decide⟩
  obtain ⟨T20, h20, X20, e20, W20, st20⟩ := stB X19 hx hZ e19 Ar20 (j := (1 : Int32)) hin20 (g := (mkF m 118 #[.val (.long j0), .second, .val (.long j1), .second, .val (.int i2), .val (.int i3), .val (.ref b1), .val (.ref b18), .unset, .unset, .unset, .unset, .unset, .unset, .unset] [(.int ((((j0.toUInt64 >>> ((8 : Int32) &&& 0x3f).toInt64.toUInt64).toInt64).toInt32).toInt8.toInt32)), (.int (1 : Int32)), (.ref b18)])) rfl rfl (hb hby at_118)
  have V_wk := V_wk.other W20 ne_wk_b18
  have S_KEY := S_KEY.wr W20
  have V_b1 := V_b1.other W20 ne_b1_b18
  have V_b18 := V_b18.set W20
  have Zs : n0 ≤ h20.size := by rw [W20.size]; exact Zs
  have Nf := Fr.snoc X20 Nf g_b18
  obtain ⟨LhX20, X20, Nf⟩ := own_hide X20 Nf
  refine own_by (B := T20.setTop (mkF m 119 #[.val (.long j0), .second, .val (.long j1), .second, .val (.int i2), .val (.int i3), .val (.ref b1), .val (.ref b18), .unset, .unset, .unset, .unset, .unset, .unset, .unset] [])) st20 ?_
  refine own_by (B := T20.setTop (mkF m 121 #[.val (.long j0), .second, .val (.long j1), .second, .val (.int i2), .val (.int i3), .val (.ref b1), .val (.ref b18), .unset, .unset, .unset, .unset, .unset, .unset, .unset] [(.ref b18)])) (fun t k => XS.aload X20.here hx rfl (hb hby at_119) rfl rfl k) ?_
  refine own_by (B := T20.setTop (mkF m 122 #[.val (.long j0), .second, .val (.long j1), .second, .val (.int i2), .val (.int i3), .val (.ref b1), .val (.ref b18), .unset, .unset, .unset, .unset, .unset, .unset, .unset] [(.int (2 : Int32)), (.ref b18)])) (fun t k => XS.iconst X20.here hx rfl (hb hby at_121) k) ?_
  refine own_by (B := T20.setTop (mkF m 123 #[.val (.long j0), .second, .val (.long j1), .second, .val (.int i2), .val (.int i3), .val (.ref b1), .val (.ref b18), .unset, .unset, .unset, .unset, .unset, .unset, .unset] [(.long j0), (.int (2 : Int32)), (.ref b18)])) (fun t k => XS.lloadN X20.here hx rfl (hb hby at_122) rfl k) ?_
  refine own_by (B := T20.setTop (mkF m 125 #[.val (.long j0), .second, .val (.long j1), .second, .val (.int i2), .val (.int i3), .val (.ref b1), .val (.ref b18), .unset, .unset, .unset, .unset, .unset, .unset, .unset] [(.int (16 : Int32)), (.long j0), (.int (2 : Int32)), (.ref b18)])) (fun t k => XS.bipush X20.here hx rfl (hb hby at_123) k) ?_
  refine own_by (B := T20.setTop (mkF m 126 #[.val (.long j0), .second, .val (.long j1), .second, .val (.int i2), .val (.int i3), .val (.ref b1), .val (.ref b18), .unset, .unset, .unset, .unset, .unset, .unset, .unset] [(.long ((j0.toUInt64 >>> ((16 : Int32) &&& 0x3f).toInt64.toUInt64).toInt64)), (.int (2 : Int32)), (.ref b18)])) (fun t k => XS.lushr X20.here hx rfl (hb hby at_125) rfl k) ?_
  refine own_by (B := T20.setTop (mkF m 127 #[.val (.long j0), .second, .val (.long j1), .second, .val (.int i2), .val (.int i3), .val (.ref b1), .val (.ref b18), .unset, .unset, .unset, .unset, .unset, .unset, .unset] [(.int (((j0.toUInt64 >>> ((16 : Int32) &&& 0x3f).toInt64.toUInt64).toInt64).toInt32)), (.int (2 : Int32)), (.ref b18)])) (fun t k => XS.l2i X20.here hx rfl (hb hby at_126) rfl k) ?_
  refine own_by (B := T20.setTop (mkF m 128 #[.val (.long j0), .second, .val (.long j1), .second, .val (.int i2), .val (.int i3), .val (.ref b1), .val (.ref b18), .unset, .unset, .unset, .unset, .unset, .unset, .unset] [(.int ((((j0.toUInt64 >>> ((16 : Int32) &&& 0x3f).toInt64.toUInt64).toInt64).toInt32).toInt8.toInt32)), (.int (2 : Int32)), (.ref b18)])) (fun t k => XS.i2b X20.here hx rfl (hb hby at_127) rfl k) ?_
  obtain ⟨cl21, Ar21, hin21, -⟩ := V_b18.at (j := (2 : Int32)) ⟨by decide, by decide⟩
  obtain ⟨T21, h21, X21, e21, W21, st21⟩ := stB X20 hx hZ e20 Ar21 (j := (2 : Int32)) hin21 (g := (mkF m 128 #[.val (.long j0), .second, .val (.long j1), .second, .val (.int i2), .val (.int i3), .val (.ref b1), .val (.ref b18), .unset, .unset, .unset, .unset, .unset, .unset, .unset] [(.int ((((j0.toUInt64 >>> ((16 : Int32) &&& 0x3f).toInt64.toUInt64).toInt64).toInt32).toInt8.toInt32)), (.int (2 : Int32)), (.ref b18)])) rfl rfl (hb hby at_128)
  have V_wk := V_wk.other W21 ne_wk_b18
  have S_KEY := S_KEY.wr W21
  have V_b1 := V_b1.other W21 ne_b1_b18
  have V_b18 := V_b18.set W21
  have Zs : n0 ≤ h21.size := by rw [W21.size]; exact Zs
  have Nf := Fr.snoc X21 Nf g_b18
  obtain ⟨LhX21, X21, Nf⟩ := own_hide X21 Nf
  refine own_by (B := T21.setTop (mkF m 129 #[.val (.long j0), .second, .val (.long j1), .second, .val (.int i2), .val (.int i3), .val (.ref b1), .val (.ref b18), .unset, .unset, .unset, .unset, .unset, .unset, .unset] [])) st21 ?_
  refine own_by (B := T21.setTop (mkF m 131 #[.val (.long j0), .second, .val (.long j1), .second, .val (.int i2), .val (.int i3), .val (.ref b1), .val (.ref b18), .unset, .unset, .unset, .unset, .unset, .unset, .unset] [(.ref b18)])) (fun t k => XS.aload X21.here hx rfl (hb hby at_129) rfl rfl k) ?_
  refine own_by (B := T21.setTop (mkF m 132 #[.val (.long j0), .second, .val (.long j1), .second, .val (.int i2), .val (.int i3), .val (.ref b1), .val (.ref b18), .unset, .unset, .unset, .unset, .unset, .unset, .unset] [(.int (3 : Int32)), (.ref b18)])) (fun t k => XS.iconst X21.here hx rfl (hb hby at_131) k) ?_
  refine own_by (B := T21.setTop (mkF m 133 #[.val (.long j0), .second, .val (.long j1), .second, .val (.int i2), .val (.int i3), .val (.ref b1), .val (.ref b18), .unset, .unset, .unset, .unset, .unset, .unset, .unset] [(.long j0), (.int (3 : Int32)), (.ref b18)])) (fun t k => XS.lloadN X21.here hx rfl (hb hby at_132) rfl k) ?_
  refine own_by (B := T21.setTop (mkF m 135 #[.val (.long j0), .second, .val (.long j1), .second, .val (.int i2), .val (.int i3), .val (.ref b1), .val (.ref b18), .unset, .unset, .unset, .unset, .unset, .unset, .unset] [(.int (24 : Int32)), (.long j0), (.int (3 : Int32)), (.ref b18)])) (fun t k => XS.bipush X21.here hx rfl (hb hby at_133) k) ?_
  refine own_by (B := T21.setTop (mkF m 136 #[.val (.long j0), .second, .val (.long j1), .second, .val (.int i2), .val (.int i3), .val (.ref b1), .val (.ref b18), .unset, .unset, .unset, .unset, .unset, .unset, .unset] [(.long ((j0.toUInt64 >>> ((24 : Int32) &&& 0x3f).toInt64.toUInt64).toInt64)), (.int (3 : Int32)), (.ref b18)])) (fun t k => XS.lushr X21.here hx rfl (hb hby at_135) rfl k) ?_
  refine own_by (B := T21.setTop (mkF m 137 #[.val (.long j0), .second, .val (.long j1), .second, .val (.int i2), .val (.int i3), .val (.ref b1), .val (.ref b18), .unset, .unset, .unset, .unset, .unset, .unset, .unset] [(.int (((j0.toUInt64 >>> ((24 : Int32) &&& 0x3f).toInt64.toUInt64).toInt64).toInt32)), (.int (3 : Int32)), (.ref b18)])) (fun t k => XS.l2i X21.here hx rfl (hb hby at_136) rfl k) ?_
  refine own_by (B := T21.setTop (mkF m 138 #[.val (.long j0), .second, .val (.long j1), .second, .val (.int i2), .val (.int i3), .val (.ref b1), .val (.ref b18), .unset, .unset, .unset, .unset, .unset, .unset, .unset] [(.int ((((j0.toUInt64 >>> ((24 : Int32) &&& 0x3f).toInt64.toUInt64).toInt64).toInt32).toInt8.toInt32)), (.int (3 : Int32)), (.ref b18)])) (fun t k => XS.i2b X21.here hx rfl (hb hby at_137) rfl k) ?_
  obtain ⟨cl22, Ar22, hin22, -⟩ := V_b18.at (j := (3 : Int32)) ⟨by decide, by decide⟩
  obtain ⟨T22, h22, X22, e22, W22, st22⟩ := stB X21 hx hZ e21 Ar22 (j := (3 : Int32)) hin22 (g := (mkF m 138 #[.val (.long j0), .second, .val (.long j1), .second, .val (.int i2), .val (.int i3), .val (.ref b1), .val (.ref b18), .unset, .unset, .unset, .unset, .unset, .unset, .unset] [(.int ((((j0.toUInt64 >>> ((24 : Int32) &&& 0x3f).toInt64.toUInt64).toInt64).toInt32).toInt8.toInt32)), (.int (3 : Int32)), (.ref b18)])) rfl rfl (hb hby at_138)
  have V_wk := V_wk.other W22 ne_wk_b18
  have S_KEY := S_KEY.wr W22
  have V_b1 := V_b1.other W22 ne_b1_b18
  have V_b18 := V_b18.set W22
  have Zs : n0 ≤ h22.size := by rw [W22.size]; exact Zs
  have Nf := Fr.snoc X22 Nf g_b18
  obtain ⟨LhX22, X22, Nf⟩ := own_hide X22 Nf
  refine own_by (B := T22.setTop (mkF m 139 #[.val (.long j0), .second, .val (.long j1), .second, .val (.int i2), .val (.int i3), .val (.ref b1), .val (.ref b18), .unset, .unset, .unset, .unset, .unset, .unset, .unset] [])) st22 ?_
  refine own_by (B := T22.setTop (mkF m 141 #[.val (.long j0), .second, .val (.long j1), .second, .val (.int i2), .val (.int i3), .val (.ref b1), .val (.ref b18), .unset, .unset, .unset, .unset, .unset, .unset, .unset] [(.ref b18)])) (fun t k => XS.aload X22.here hx rfl (hb hby at_139) rfl rfl k) ?_
  refine own_by (B := T22.setTop (mkF m 142 #[.val (.long j0), .second, .val (.long j1), .second, .val (.int i2), .val (.int i3), .val (.ref b1), .val (.ref b18), .unset, .unset, .unset, .unset, .unset, .unset, .unset] [(.int (4 : Int32)), (.ref b18)])) (fun t k => XS.iconst X22.here hx rfl (hb hby at_141) k) ?_
  refine own_by (B := T22.setTop (mkF m 143 #[.val (.long j0), .second, .val (.long j1), .second, .val (.int i2), .val (.int i3), .val (.ref b1), .val (.ref b18), .unset, .unset, .unset, .unset, .unset, .unset, .unset] [(.long j0), (.int (4 : Int32)), (.ref b18)])) (fun t k => XS.lloadN X22.here hx rfl (hb hby at_142) rfl k) ?_
  refine own_by (B := T22.setTop (mkF m 145 #[.val (.long j0), .second, .val (.long j1), .second, .val (.int i2), .val (.int i3), .val (.ref b1), .val (.ref b18), .unset, .unset, .unset, .unset, .unset, .unset, .unset] [(.int (32 : Int32)), (.long j0), (.int (4 : Int32)), (.ref b18)])) (fun t k => XS.bipush X22.here hx rfl (hb hby at_143) k) ?_
  refine own_by (B := T22.setTop (mkF m 146 #[.val (.long j0), .second, .val (.long j1), .second, .val (.int i2), .val (.int i3), .val (.ref b1), .val (.ref b18), .unset, .unset, .unset, .unset, .unset, .unset, .unset] [(.long ((j0.toUInt64 >>> ((32 : Int32) &&& 0x3f).toInt64.toUInt64).toInt64)), (.int (4 : Int32)), (.ref b18)])) (fun t k => XS.lushr X22.here hx rfl (hb hby at_145) rfl k) ?_
  refine own_by (B := T22.setTop (mkF m 147 #[.val (.long j0), .second, .val (.long j1), .second, .val (.int i2), .val (.int i3), .val (.ref b1), .val (.ref b18), .unset, .unset, .unset, .unset, .unset, .unset, .unset] [(.int (((j0.toUInt64 >>> ((32 : Int32) &&& 0x3f).toInt64.toUInt64).toInt64).toInt32)), (.int (4 : Int32)), (.ref b18)])) (fun t k => XS.l2i X22.here hx rfl (hb hby at_146) rfl k) ?_
  refine own_by (B := T22.setTop (mkF m 148 #[.val (.long j0), .second, .val (.long j1), .second, .val (.int i2), .val (.int i3), .val (.ref b1), .val (.ref b18), .unset, .unset, .unset, .unset, .unset, .unset, .unset] [(.int ((((j0.toUInt64 >>> ((32 : Int32) &&& 0x3f).toInt64.toUInt64).toInt64).toInt32).toInt8.toInt32)), (.int (4 : Int32)), (.ref b18)])) (fun t k => XS.i2b X22.here hx rfl (hb hby at_147) rfl k) ?_
  obtain ⟨cl23, Ar23, hin23, -⟩ := V_b18.at (j := (4 : Int32)) ⟨by decide, by decide⟩
  obtain ⟨T23, h23, X23, e23, W23, st23⟩ := stB X22 hx hZ e22 Ar23 (j := (4 : Int32)) hin23 (g := (mkF m 148 #[.val (.long j0), .second, .val (.long j1), .second, .val (.int i2), .val (.int i3), .val (.ref b1), .val (.ref b18), .unset, .unset, .unset, .unset, .unset, .unset, .unset] [(.int ((((j0.toUInt64 >>> ((32 : Int32) &&& 0x3f).toInt64.toUInt64).toInt64).toInt32).toInt8.toInt32)), (.int (4 : Int32)), (.ref b18)])) rfl rfl (hb hby at_148)
  have V_wk := V_wk.other W23 ne_wk_b18
  have S_KEY := S_KEY.wr W23
  have V_b1 := V_b1.other W23 ne_b1_b18
  have V_b18 := V_b18.set W23
  have Zs : n0 ≤ h23.size := by rw [W23.size]; exact Zs
  have Nf := Fr.snoc X23 Nf g_b18
  obtain ⟨LhX23, X23, Nf⟩ := own_hide X23 Nf
  refine own_by (B := T23.setTop (mkF m 149 #[.val (.long j0), .second, .val (.long j1), .second, .val (.int i2), .val (.int i3), .val (.ref b1), .val (.ref b18), .unset, .unset, .unset, .unset, .unset, .unset, .unset] [])) st23 ?_
  refine own_by (B := T23.setTop (mkF m 151 #[.val (.long j0), .second, .val (.long j1), .second, .val (.int i2), .val (.int i3), .val (.ref b1), .val (.ref b18), .unset, .unset, .unset, .unset, .unset, .unset, .unset] [(.ref b18)])) (fun t k => XS.aload X23.here hx rfl (hb hby at_149) rfl rfl k) ?_
  refine own_by (B := T23.setTop (mkF m 152 #[.val (.long j0), .second, .val (.long j1), .second, .val (.int i2), .val (.int i3), .val (.ref b1), .val (.ref b18), .unset, .unset, .unset, .unset, .unset, .unset, .unset] [(.int (5 : Int32)), (.ref b18)])) (fun t k => XS.iconst X23.here hx rfl (hb hby at_151) k) ?_
  refine own_by (B := T23.setTop (mkF m 153 #[.val (.long j0), .second, .val (.long j1), .second, .val (.int i2), .val (.int i3), .val (.ref b1), .val (.ref b18), .unset, .unset, .unset, .unset, .unset, .unset, .unset] [(.long j0), (.int (5 : Int32)), (.ref b18)])) (fun t k => XS.lloadN X23.here hx rfl (hb hby at_152) rfl k) ?_
  refine own_by (B := T23.setTop (mkF m 155 #[.val (.long j0), .second, .val (.long j1), .second, .val (.int i2), .val (.int i3), .val (.ref b1), .val (.ref b18), .unset, .unset, .unset, .unset, .unset, .unset, .unset] [(.int (40 : Int32)), (.long j0), (.int (5 : Int32)), (.ref b18)])) (fun t k => XS.bipush X23.here hx rfl (hb hby at_153) k) ?_
  refine own_by (B := T23.setTop (mkF m 156 #[.val (.long j0), .second, .val (.long j1), .second, .val (.int i2), .val (.int i3), .val (.ref b1), .val (.ref b18), .unset, .unset, .unset, .unset, .unset, .unset, .unset] [(.long ((j0.toUInt64 >>> ((40 : Int32) &&& 0x3f).toInt64.toUInt64).toInt64)), (.int (5 : Int32)), (.ref b18)])) (fun t k => XS.lushr X23.here hx rfl (hb hby at_155) rfl k) ?_
  refine own_by (B := T23.setTop (mkF m 157 #[.val (.long j0), .second, .val (.long j1), .second, .val (.int i2), .val (.int i3), .val (.ref b1), .val (.ref b18), .unset, .unset, .unset, .unset, .unset, .unset, .unset] [(.int (((j0.toUInt64 >>> ((40 : Int32) &&& 0x3f).toInt64.toUInt64).toInt64).toInt32)), (.int (5 : Int32)), (.ref b18)])) (fun t k => XS.l2i X23.here hx rfl (hb hby at_156) rfl k) ?_
  refine own_by (B := T23.setTop (mkF m 158 #[.val (.long j0), .second, .val (.long j1), .second, .val (.int i2), .val (.int i3), .val (.ref b1), .val (.ref b18), .unset, .unset, .unset, .unset, .unset, .unset, .unset] [(.int ((((j0.toUInt64 >>> ((40 : Int32) &&& 0x3f).toInt64.toUInt64).toInt64).toInt32).toInt8.toInt32)), (.int (5 : Int32)), (.ref b18)])) (fun t k => XS.i2b X23.here hx rfl (hb hby at_157) rfl k) ?_
  obtain ⟨cl24, Ar24, hin24, -⟩ := V_b18.at (j := (5 : Int32)) ⟨by decide, by decide⟩
  obtain ⟨T24, h24, X24, e24, W24, st24⟩ := stB X23 hx hZ e23 Ar24 (j := (5 : Int32)) hin24 (g := (mkF m 158 #[.val (.long j0), .second, .val (.long j1), .second, .val (.int i2), .val (.int i3), .val (.ref b1), .val (.ref b18), .unset, .unset, .unset, .unset, .unset, .unset, .unset] [(.int ((((j0.toUInt64 >>> ((40 : Int32) &&& 0x3f).toInt64.toUInt64).toInt64).toInt32).toInt8.toInt32)), (.int (5 : Int32)), (.ref b18)])) rfl rfl (hb hby at_158)
  have V_wk := V_wk.other W24 ne_wk_b18
  have S_KEY := S_KEY.wr W24
  have V_b1 := V_b1.other W24 ne_b1_b18
  have V_b18 := V_b18.set W24
  have Zs : n0 ≤ h24.size := by rw [W24.size]; exact Zs
  have Nf := Fr.snoc X24 Nf g_b18
  obtain ⟨LhX24, X24, Nf⟩ := own_hide X24 Nf
  refine own_by (B := T24.setTop (mkF m 159 #[.val (.long j0), .second, .val (.long j1), .second, .val (.int i2), .val (.int i3), .val (.ref b1), .val (.ref b18), .unset, .unset, .unset, .unset, .unset, .unset, .unset] [])) st24 ?_
  refine own_by (B := T24.setTop (mkF m 161 #[.val (.long j0), .second, .val (.long j1), .second, .val (.int i2), .val (.int i3), .val (.ref b1), .val (.ref b18), .unset, .unset, .unset, .unset, .unset, .unset, .unset] [(.ref b18)])) (fun t k => XS.aload X24.here hx rfl (hb hby at_159) rfl rfl k) ?_
  refine own_by (B := T24.setTop (mkF m 163 #[.val (.long j0), .second, .val (.long j1), .second, .val (.int i2), .val (.int i3), .val (.ref b1), .val (.ref b18), .unset, .unset, .unset, .unset, .unset, .unset, .unset] [(.int (6 : Int32)), (.ref b18)])) (fun t k => XS.bipush X24.here hx rfl (hb hby at_161) k) ?_
  refine own_by (B := T24.setTop (mkF m 164 #[.val (.long j0), .second, .val (.long j1), .second, .val (.int i2), .val (.int i3), .val (.ref b1), .val (.ref b18), .unset, .unset, .unset, .unset, .unset, .unset, .unset] [(.long j0), (.int (6 : Int32)), (.ref b18)])) (fun t k => XS.lloadN X24.here hx rfl (hb hby at_163) rfl k) ?_
  refine own_by (B := T24.setTop (mkF m 166 #[.val (.long j0), .second, .val (.long j1), .second, .val (.int i2), .val (.int i3), .val (.ref b1), .val (.ref b18), .unset, .unset, .unset, .unset, .unset, .unset, .unset] [(.int (48 : Int32)), (.long j0), (.int (6 : Int32)), (.ref b18)])) (fun t k => XS.bipush X24.here hx rfl (hb hby at_164) k) ?_
  refine own_by (B := T24.setTop (mkF m 167 #[.val (.long j0), .second, .val (.long j1), .second, .val (.int i2), .val (.int i3), .val (.ref b1), .val (.ref b18), .unset, .unset, .unset, .unset, .unset, .unset, .unset] [(.long ((j0.toUInt64 >>> ((48 : Int32) &&& 0x3f).toInt64.toUInt64).toInt64)), (.int (6 : Int32)), (.ref b18)])) (fun t k => XS.lushr X24.here hx rfl (hb hby at_166) rfl k) ?_
  refine own_by (B := T24.setTop (mkF m 168 #[.val (.long j0), .second, .val (.long j1), .second, .val (.int i2), .val (.int i3), .val (.ref b1), .val (.ref b18), .unset, .unset, .unset, .unset, .unset, .unset, .unset] [(.int (((j0.toUInt64 >>> ((48 : Int32) &&& 0x3f).toInt64.toUInt64).toInt64).toInt32)), (.int (6 : Int32)), (.ref b18)])) (fun t k => XS.l2i X24.here hx rfl (hb hby at_167) rfl k) ?_
  refine own_by (B := T24.setTop (mkF m 169 #[.val (.long j0), .second, .val (.long j1), .second, .val (.int i2), .val (.int i3), .val (.ref b1), .val (.ref b18), .unset, .unset, .unset, .unset, .unset, .unset, .unset] [(.int ((((j0.toUInt64 >>> ((48 : Int32) &&& 0x3f).toInt64.toUInt64).toInt64).toInt32).toInt8.toInt32)), (.int (6 : Int32)), (.ref b18)])) (fun t k => XS.i2b X24.here hx rfl (hb hby at_168) rfl k) ?_
  obtain ⟨cl25, Ar25, hin25, -⟩ := V_b18.at (j := (6 : Int32)) ⟨by decide, by decide⟩
  obtain ⟨T25, h25, X25, e25, W25, st25⟩ := stB X24 hx hZ e24 Ar25 (j := (6 : Int32)) hin25 (g := (mkF m 169 #[.val (.long j0), .second, .val (.long j1), .second, .val (.int i2), .val (.int i3), .val (.ref b1), .val (.ref b18), .unset, .unset, .unset, .unset, .unset, .unset, .unset] [(.int ((((j0.toUInt64 >>> ((48 : Int32) &&& 0x3f).toInt64.toUInt64).toInt64).toInt32).toInt8.toInt32)), (.int (6 : Int32)), (.ref b18)])) rfl rfl (hb hby at_169)
  have V_wk := V_wk.other W25 ne_wk_b18
  have S_KEY := S_KEY.wr W25
  have V_b1 := V_b1.other W25 ne_b1_b18
  have V_b18 := V_b18.set W25
  have Zs : n0 ≤ h25.size := by rw [W25.size]; exact Zs
  have Nf := Fr.snoc X25 Nf g_b18
  obtain ⟨LhX25, X25, Nf⟩ := own_hide X25 Nf
  refine own_by (B := T25.setTop (mkF m 170 #[.val (.long j0), .second, .val (.long j1), .second, .val (.int i2), .val (.int i3), .val (.ref b1), .val (.ref b18), .unset, .unset, .unset, .unset, .unset, .unset, .unset] [])) st25 ?_
  refine own_by (B := T25.setTop (mkF m 172 #[.val (.long j0), .second, .val (.long j1), .second, .val (.int i2), .val (.int i3), .val (.ref b1), .val (.ref b18), .unset, .unset, .unset, .unset, .unset, .unset, .unset] [(.ref b18)])) (fun t k => XS.aload X25.here hx rfl (hb hby at_170) rfl rfl k) ?_
  refine own_by (B := T25.setTop (mkF m 174 #[.val (.long j0), .second, .val (.long j1), .second, .val (.int i2), .val (.int i3), .val (.ref b1), .val (.ref b18), .unset, .unset, .unset, .unset, .unset, .unset, .unset] [(.int (7 : Int32)), (.ref b18)])) (fun t k => XS.bipush X25.here hx rfl (hb hby at_172) k) ?_
  refine own_by (B := T25.setTop (mkF m 175 #[.val (.long j0), .second, .val (.long j1), .second, .val (.int i2), .val (.int i3), .val (.ref b1), .val (.ref b18), .unset, .unset, .unset, .unset, .unset, .unset, .unset] [(.long j0), (.int (7 : Int32)), (.ref b18)])) (fun t k => XS.lloadN X25.here hx rfl (hb hby at_174) rfl k) ?_
  refine own_by (B := T25.setTop (mkF m 177 #[.val (.long j0), .second, .val (.long j1), .second, .val (.int i2), .val (.int i3), .val (.ref b1), .val (.ref b18), .unset, .unset, .unset, .unset, .unset, .unset, .unset] [(.int (56 : Int32)), (.long j0), (.int (7 : Int32)), (.ref b18)])) (fun t k => XS.bipush X25.here hx rfl (hb hby at_175) k) ?_
  refine own_by (B := T25.setTop (mkF m 178 #[.val (.long j0), .second, .val (.long j1), .second, .val (.int i2), .val (.int i3), .val (.ref b1), .val (.ref b18), .unset, .unset, .unset, .unset, .unset, .unset, .unset] [(.long ((j0.toUInt64 >>> ((56 : Int32) &&& 0x3f).toInt64.toUInt64).toInt64)), (.int (7 : Int32)), (.ref b18)])) (fun t k => XS.lushr X25.here hx rfl (hb hby at_177) rfl k) ?_
  refine own_by (B := T25.setTop (mkF m 179 #[.val (.long j0), .second, .val (.long j1), .second, .val (.int i2), .val (.int i3), .val (.ref b1), .val (.ref b18), .unset, .unset, .unset, .unset, .unset, .unset, .unset] [(.int (((j0.toUInt64 >>> ((56 : Int32) &&& 0x3f).toInt64.toUInt64).toInt64).toInt32)), (.int (7 : Int32)), (.ref b18)])) (fun t k => XS.l2i X25.here hx rfl (hb hby at_178) rfl k) ?_
  refine own_by (B := T25.setTop (mkF m 180 #[.val (.long j0), .second, .val (.long j1), .second, .val (.int i2), .val (.int i3), .val (.ref b1), .val (.ref b18), .unset, .unset, .unset, .unset, .unset, .unset, .unset] [(.int ((((j0.toUInt64 >>> ((56 : Int32) &&& 0x3f).toInt64.toUInt64).toInt64).toInt32).toInt8.toInt32)), (.int (7 : Int32)), (.ref b18)])) (fun t k => XS.i2b X25.here hx rfl (hb hby at_179) rfl k) ?_
  obtain ⟨cl26, Ar26, hin26, -⟩ := V_b18.at (j := (7 : Int32)) ⟨by decide, by decide⟩
  obtain ⟨T26, h26, X26, e26, W26, st26⟩ := stB X25 hx hZ e25 Ar26 (j := (7 : Int32)) hin26 (g := (mkF m 180 #[.val (.long j0), .second, .val (.long j1), .second, .val (.int i2), .val (.int i3), .val (.ref b1), .val (.ref b18), .unset, .unset, .unset, .unset, .unset, .unset, .unset] [(.int ((((j0.toUInt64 >>> ((56 : Int32) &&& 0x3f).toInt64.toUInt64).toInt64).toInt32).toInt8.toInt32)), (.int (7 : Int32)), (.ref b18)])) rfl rfl (hb hby at_180)
  have V_wk := V_wk.other W26 ne_wk_b18
  have S_KEY := S_KEY.wr W26
  have V_b1 := V_b1.other W26 ne_b1_b18
  have V_b18 := V_b18.set W26
  have Zs : n0 ≤ h26.size := by rw [W26.size]; exact Zs
  have Nf := Fr.snoc X26 Nf g_b18
  obtain ⟨LhX26, X26, Nf⟩ := own_hide X26 Nf
  refine own_by (B := T26.setTop (mkF m 181 #[.val (.long j0), .second, .val (.long j1), .second, .val (.int i2), .val (.int i3), .val (.ref b1), .val (.ref b18), .unset, .unset, .unset, .unset, .unset, .unset, .unset] [])) st26 ?_
  refine own_by (B := T26.setTop (mkF m 183 #[.val (.long j0), .second, .val (.long j1), .second, .val (.int i2), .val (.int i3), .val (.ref b1), .val (.ref b18), .unset, .unset, .unset, .unset, .unset, .unset, .unset] [(.ref b18)])) (fun t k => XS.aload X26.here hx rfl (hb hby at_181) rfl rfl k) ?_
  refine own_by (B := T26.setTop (mkF m 185 #[.val (.long j0), .second, .val (.long j1), .second, .val (.int i2), .val (.int i3), .val (.ref b1), .val (.ref b18), .unset, .unset, .unset, .unset, .unset, .unset, .unset] [(.int (8 : Int32)), (.ref b18)])) (fun t k => XS.bipush X26.here hx rfl (hb hby at_183) k) ?_
  refine own_by (B := T26.setTop (mkF m 186 #[.val (.long j0), .second, .val (.long j1), .second, .val (.int i2), .val (.int i3), .val (.ref b1), .val (.ref b18), .unset, .unset, .unset, .unset, .unset, .unset, .unset] [(.long j1), (.int (8 : Int32)), (.ref b18)])) (fun t k => XS.lloadN X26.here hx rfl (hb hby at_185) rfl k) ?_
  refine own_by (B := T26.setTop (mkF m 187 #[.val (.long j0), .second, .val (.long j1), .second, .val (.int i2), .val (.int i3), .val (.ref b1), .val (.ref b18), .unset, .unset, .unset, .unset, .unset, .unset, .unset] [(.int (j1.toInt32)), (.int (8 : Int32)), (.ref b18)])) (fun t k => XS.l2i X26.here hx rfl (hb hby at_186) rfl k) ?_
  refine own_by (B := T26.setTop (mkF m 188 #[.val (.long j0), .second, .val (.long j1), .second, .val (.int i2), .val (.int i3), .val (.ref b1), .val (.ref b18), .unset, .unset, .unset, .unset, .unset, .unset, .unset] [(.int ((j1.toInt32).toInt8.toInt32)), (.int (8 : Int32)), (.ref b18)])) (fun t k => XS.i2b X26.here hx rfl (hb hby at_187) rfl k) ?_
  obtain ⟨cl27, Ar27, hin27, -⟩ := V_b18.at (j := (8 : Int32)) ⟨by decide, by decide⟩
  obtain ⟨T27, h27, X27, e27, W27, st27⟩ := stB X26 hx hZ e26 Ar27 (j := (8 : Int32)) hin27 (g := (mkF m 188 #[.val (.long j0), .second, .val (.long j1), .second, .val (.int i2), .val (.int i3), .val (.ref b1), .val (.ref b18), .unset, .unset, .unset, .unset, .unset, .unset, .unset] [(.int ((j1.toInt32).toInt8.toInt32)), (.int (8 : Int32)), (.ref b18)])) rfl rfl (hb hby at_188)
  have V_wk := V_wk.other W27 ne_wk_b18
  have S_KEY := S_KEY.wr W27
  have V_b1 := V_b1.other W27 ne_b1_b18
  have V_b18 := V_b18.set W27
  have Zs : n0 ≤ h27.size := by rw [W27.size]; exact Zs
  have Nf := Fr.snoc X27 Nf g_b18
  obtain ⟨LhX27, X27, Nf⟩ := own_hide X27 Nf
  refine own_by (B := T27.setTop (mkF m 189 #[.val (.long j0), .second, .val (.long j1), .second, .val (.int i2), .val (.int i3), .val (.ref b1), .val (.ref b18), .unset, .unset, .unset, .unset, .unset, .unset, .unset] [])) st27 ?_
  refine own_by (B := T27.setTop (mkF m 191 #[.val (.long j0), .second, .val (.long j1), .second, .val (.int i2), .val (.int i3), .val (.ref b1), .val (.ref b18), .unset, .unset, .unset, .unset, .unset, .unset, .unset] [(.ref b18)])) (fun t k => XS.aload X27.here hx rfl (hb hby at_189) rfl rfl k) ?_
  refine own_by (B := T27.setTop (mkF m 193 #[.val (.long j0), .second, .val (.long j1), .second, .val (.int i2), .val (.int i3), .val (.ref b1), .val (.ref b18), .unset, .unset, .unset, .unset, .unset, .unset, .unset] [(.int (9 : Int32)), (.ref b18)])) (fun t k => XS.bipush X27.here hx rfl (hb hby at_191) k) ?_
  refine own_by (B := T27.setTop (mkF m 194 #[.val (.long j0), .second, .val (.long j1), .second, .val (.int i2), .val (.int i3), .val (.ref b1), .val (.ref b18), .unset, .unset, .unset, .unset, .unset, .unset, .unset] [(.long j1), (.int (9 : Int32)), (.ref b18)])) (fun t k => XS.lloadN X27.here hx rfl (hb hby at_193) rfl k) ?_
  refine own_by (B := T27.setTop (mkF m 196 #[.val (.long j0), .second, .val (.long j1), .second, .val (.int i2), .val (.int i3), .val (.ref b1), .val (.ref b18), .unset, .unset, .unset, .unset, .unset, .unset, .unset] [(.int (8 : Int32)), (.long j1), (.int (9 : Int32)), (.ref b18)])) (fun t k => XS.bipush X27.here hx rfl (hb hby at_194) k) ?_
  refine own_by (B := T27.setTop (mkF m 197 #[.val (.long j0), .second, .val (.long j1), .second, .val (.int i2), .val (.int i3), .val (.ref b1), .val (.ref b18), .unset, .unset, .unset, .unset, .unset, .unset, .unset] [(.long ((j1.toUInt64 >>> ((8 : Int32) &&& 0x3f).toInt64.toUInt64).toInt64)), (.int (9 : Int32)), (.ref b18)])) (fun t k => XS.lushr X27.here hx rfl (hb hby at_196) rfl k) ?_
  refine own_by (B := T27.setTop (mkF m 198 #[.val (.long j0), .second, .val (.long j1), .second, .val (.int i2), .val (.int i3), .val (.ref b1), .val (.ref b18), .unset, .unset, .unset, .unset, .unset, .unset, .unset] [(.int (((j1.toUInt64 >>> ((8 : Int32) &&& 0x3f).toInt64.toUInt64).toInt64).toInt32)), (.int (9 : Int32)), (.ref b18)])) (fun t k => XS.l2i X27.here hx rfl (hb hby at_197) rfl k) ?_
  refine own_by (B := T27.setTop (mkF m 199 #[.val (.long j0), .second, .val (.long j1), .second, .val (.int i2), .val (.int i3), .val (.ref b1), .val (.ref b18), .unset, .unset, .unset, .unset, .unset, .unset, .unset] [(.int ((((j1.toUInt64 >>> ((8 : Int32) &&& 0x3f).toInt64.toUInt64).toInt64).toInt32).toInt8.toInt32)), (.int (9 : Int32)), (.ref b18)])) (fun t k => XS.i2b X27.here hx rfl (hb hby at_198) rfl k) ?_
  obtain ⟨cl28, Ar28, hin28, -⟩ := V_b18.at (j := (9 : Int32)) ⟨by decide, by decide⟩
  obtain ⟨T28, h28, X28, e28, W28, st28⟩ := stB X27 hx hZ e27 Ar28 (j := (9 : Int32)) hin28 (g := (mkF m 199 #[.val (.long j0), .second, .val (.long j1), .second, .val (.int i2), .val (.int i3), .val (.ref b1), .val (.ref b18), .unset, .unset, .unset, .unset, .unset, .unset, .unset] [(.int ((((j1.toUInt64 >>> ((8 : Int32) &&& 0x3f).toInt64.toUInt64).toInt64).toInt32).toInt8.toInt32)), (.int (9 : Int32)), (.ref b18)])) rfl rfl (hb hby at_199)
  have V_wk := V_wk.other W28 ne_wk_b18
  have S_KEY := S_KEY.wr W28
  have V_b1 := V_b1.other W28 ne_b1_b18
  have V_b18 := V_b18.set W28
  have Zs : n0 ≤ h28.size := by rw [W28.size]; exact Zs
  have Nf := Fr.snoc X28 Nf g_b18
  obtain ⟨LhX28, X28, Nf⟩ := own_hide X28 Nf
  refine own_by (B := T28.setTop (mkF m 200 #[.val (.long j0), .second, .val (.long j1), .second, .val (.int i2), .val (.int i3), .val (.ref b1), .val (.ref b18), .unset, .unset, .unset, .unset, .unset, .unset, .unset] [])) st28 ?_
  refine own_by (B := T28.setTop (mkF m 202 #[.val (.long j0), .second, .val (.long j1), .second, .val (.int i2), .val (.int i3), .val (.ref b1), .val (.ref b18), .unset, .unset, .unset, .unset, .unset, .unset, .unset] [(.ref b18)])) (fun t k => XS.aload X28.here hx rfl (hb hby at_200) rfl rfl k) ?_
  refine own_by (B := T28.setTop (mkF m 204 #[.val (.long j0), .second, .val (.long j1), .second, .val (.int i2), .val (.int i3), .val (.ref b1), .val (.ref b18), .unset, .unset, .unset, .unset, .unset, .unset, .unset] [(.int (10 : Int32)), (.ref b18)])) (fun t k => XS.bipush X28.here hx rfl (hb hby at_202) k) ?_
  refine own_by (B := T28.setTop (mkF m 205 #[.val (.long j0), .second, .val (.long j1), .second, .val (.int i2), .val (.int i3), .val (.ref b1), .val (.ref b18), .unset, .unset, .unset, .unset, .unset, .unset, .unset] [(.long j1), (.int (10 : Int32)), (.ref b18)])) (fun t k => XS.lloadN X28.here hx rfl (hb hby at_204) rfl k) ?_
  refine own_by (B := T28.setTop (mkF m 207 #[.val (.long j0), .second, .val (.long j1), .second, .val (.int i2), .val (.int i3), .val (.ref b1), .val (.ref b18), .unset, .unset, .unset, .unset, .unset, .unset, .unset] [(.int (16 : Int32)), (.long j1), (.int (10 : Int32)), (.ref b18)])) (fun t k => XS.bipush X28.here hx rfl (hb hby at_205) k) ?_
  refine own_by (B := T28.setTop (mkF m 208 #[.val (.long j0), .second, .val (.long j1), .second, .val (.int i2), .val (.int i3), .val (.ref b1), .val (.ref b18), .unset, .unset, .unset, .unset, .unset, .unset, .unset] [(.long ((j1.toUInt64 >>> ((16 : Int32) &&& 0x3f).toInt64.toUInt64).toInt64)), (.int (10 : Int32)), (.ref b18)])) (fun t k => XS.lushr X28.here hx rfl (hb hby at_207) rfl k) ?_
  refine own_by (B := T28.setTop (mkF m 209 #[.val (.long j0), .second, .val (.long j1), .second, .val (.int i2), .val (.int i3), .val (.ref b1), .val (.ref b18), .unset, .unset, .unset, .unset, .unset, .unset, .unset] [(.int (((j1.toUInt64 >>> ((16 : Int32) &&& 0x3f).toInt64.toUInt64).toInt64).toInt32)), (.int (10 : Int32)), (.ref b18)])) (fun t k => XS.l2i X28.here hx rfl (hb hby at_208) rfl k) ?_
  refine own_by (B := T28.setTop (mkF m 210 #[.val (.long j0), .second, .val (.long j1), .second, .val (.int i2), .val (.int i3), .val (.ref b1), .val (.ref b18), .unset, .unset, .unset, .unset, .unset, .unset, .unset] [(.int ((((j1.toUInt64 >>> ((16 : Int32) &&& 0x3f).toInt64.toUInt64).toInt64).toInt32).toInt8.toInt32)), (.int (10 : Int32)), (.ref b18)])) (fun t k => XS.i2b X28.here hx rfl (hb hby at_209) rfl k) ?_
  obtain ⟨cl29, Ar29, hin29, -⟩ := V_b18.at (j := (10 : Int32)) ⟨by decide, by decide⟩
  obtain ⟨T29, h29, X29, e29, W29, st29⟩ := stB X28 hx hZ e28 Ar29 (j := (10 : Int32)) hin29 (g := (mkF m 210 #[.val (.long j0), .second, .val (.long j1), .second, .val (.int i2), .val (.int i3), .val (.ref b1), .val (.ref b18), .unset, .unset, .unset, .unset, .unset, .unset, .unset] [(.int ((((j1.toUInt64 >>> ((16 : Int32) &&& 0x3f).toInt64.toUInt64).toInt64).toInt32).toInt8.toInt32)), (.int (10 : Int32)), (.ref b18)])) rfl rfl (hb hby at_210)
  have V_wk := V_wk.other W29 ne_wk_b18
  have S_KEY := S_KEY.wr W29
  have V_b1 := V_b1.other W29 ne_b1_b18
  have V_b18 := V_b18.set W29
  have Zs : n0 ≤ h29.size := by rw [W29.size]; exact Zs
  have Nf := Fr.snoc X29 Nf g_b18
  obtain ⟨LhX29, X29, Nf⟩ := own_hide X29 Nf
  refine own_by (B := T29.setTop (mkF m 211 #[.val (.long j0), .second, .val (.long j1), .second, .val (.int i2), .val (.int i3), .val (.ref b1), .val (.ref b18), .unset, .unset, .unset, .unset, .unset, .unset, .unset] [])) st29 ?_
  refine own_by (B := T29.setTop (mkF m 213 #[.val (.long j0), .second, .val (.long j1), .second, .val (.int i2), .val (.int i3), .val (.ref b1), .val (.ref b18), .unset, .unset, .unset, .unset, .unset, .unset, .unset] [(.ref b18)])) (fun t k => XS.aload X29.here hx rfl (hb hby at_211) rfl rfl k) ?_
  refine own_by (B := T29.setTop (mkF m 215 #[.val (.long j0), .second, .val (.long j1), .second, .val (.int i2), .val (.int i3), .val (.ref b1), .val (.ref b18), .unset, .unset, .unset, .unset, .unset, .unset, .unset] [(.int (11 : Int32)), (.ref b18)])) (fun t k => XS.bipush X29.here hx rfl (hb hby at_213) k) ?_
  refine own_by (B := T29.setTop (mkF m 216 #[.val (.long j0), .second, .val (.long j1), .second, .val (.int i2), .val (.int i3), .val (.ref b1), .val (.ref b18), .unset, .unset, .unset, .unset, .unset, .unset, .unset] [(.long j1), (.int (11 : Int32)), (.ref b18)])) (fun t k => XS.lloadN X29.here hx rfl (hb hby at_215) rfl k) ?_
  refine own_by (B := T29.setTop (mkF m 218 #[.val (.long j0), .second, .val (.long j1), .second, .val (.int i2), .val (.int i3), .val (.ref b1), .val (.ref b18), .unset, .unset, .unset, .unset, .unset, .unset, .unset] [(.int (24 : Int32)), (.long j1), (.int (11 : Int32)), (.ref b18)])) (fun t k => XS.bipush X29.here hx rfl (hb hby at_216) k) ?_
  refine own_by (B := T29.setTop (mkF m 219 #[.val (.long j0), .second, .val (.long j1), .second, .val (.int i2), .val (.int i3), .val (.ref b1), .val (.ref b18), .unset, .unset, .unset, .unset, .unset, .unset, .unset] [(.long ((j1.toUInt64 >>> ((24 : Int32) &&& 0x3f).toInt64.toUInt64).toInt64)), (.int (11 : Int32)), (.ref b18)])) (fun t k => XS.lushr X29.here hx rfl (hb hby at_218) rfl k) ?_
  refine own_by (B := T29.setTop (mkF m 220 #[.val (.long j0), .second, .val (.long j1), .second, .val (.int i2), .val (.int i3), .val (.ref b1), .val (.ref b18), .unset, .unset, .unset, .unset, .unset, .unset, .unset] [(.int (((j1.toUInt64 >>> ((24 : Int32) &&& 0x3f).toInt64.toUInt64).toInt64).toInt32)), (.int (11 : Int32)), (.ref b18)])) (fun t k => XS.l2i X29.here hx rfl (hb hby at_219) rfl k) ?_
  refine own_by (B := T29.setTop (mkF m 221 #[.val (.long j0), .second, .val (.long j1), .second, .val (.int i2), .val (.int i3), .val (.ref b1), .val (.ref b18), .unset, .unset, .unset, .unset, .unset, .unset, .unset] [(.int ((((j1.toUInt64 >>> ((24 : Int32) &&& 0x3f).toInt64.toUInt64).toInt64).toInt32).toInt8.toInt32)), (.int (11 : Int32)), (.ref b18)])) (fun t k => XS.i2b X29.here hx rfl (hb hby at_220) rfl k) ?_
  obtain ⟨cl30, Ar30, hin30, -⟩ := V_b18.at (j := (11 : Int32)) ⟨by decide, by decide⟩
  obtain ⟨T30, h30, X30, e30, W30, st30⟩ := stB X29 hx hZ e29 Ar30 (j := (11 : Int32)) hin30 (g := (mkF m 221 #[.val (.long j0), .second, .val (.long j1), .second, .val (.int i2), .val (.int i3), .val (.ref b1), .val (.ref b18), .unset, .unset, .unset, .unset, .unset, .unset, .unset] [(.int ((((j1.toUInt64 >>> ((24 : Int32) &&& 0x3f).toInt64.toUInt64).toInt64).toInt32).toInt8.toInt32)), (.int (11 : Int32)), (.ref b18)])) rfl rfl (hb hby at_221)
  have V_wk := V_wk.other W30 ne_wk_b18
  have S_KEY := S_KEY.wr W30
  have V_b1 := V_b1.other W30 ne_b1_b18
  have V_b18 := V_b18.set W30
  have Zs : n0 ≤ h30.size := by rw [W30.size]; exact Zs
  have Nf := Fr.snoc X30 Nf g_b18
  obtain ⟨LhX30, X30, Nf⟩ := own_hide X30 Nf
  refine own_by (B := T30.setTop (mkF m 222 #[.val (.long j0), .second, .val (.long j1), .second, .val (.int i2), .val (.int i3), .val (.ref b1), .val (.ref b18), .unset, .unset, .unset, .unset, .unset, .unset, .unset] [])) st30 ?_
  refine own_by (B := T30.setTop (mkF m 224 #[.val (.long j0), .second, .val (.long j1), .second, .val (.int i2), .val (.int i3), .val (.ref b1), .val (.ref b18), .unset, .unset, .unset, .unset, .unset, .unset, .unset] [(.ref b18)])) (fun t k => XS.aload X30.here hx rfl (hb hby at_222) rfl rfl k) ?_
  refine own_by (B := T30.setTop (mkF m 226 #[.val (.long j0), .second, .val (.long j1), .second, .val (.int i2), .val (.int i3), .val (.ref b1), .val (.ref b18), .unset, .unset, .unset, .unset, .unset, .unset, .unset] [(.int (12 : Int32)), (.ref b18)])) (fun t k => XS.bipush X30.here hx rfl (hb hby at_224) k) ?_
  refine own_by (B := T30.setTop (mkF m 227 #[.val (.long j0), .second, .val (.long j1), .second, .val (.int i2), .val (.int i3), .val (.ref b1), .val (.ref b18), .unset, .unset, .unset, .unset, .unset, .unset, .unset] [(.long j1), (.int (12 : Int32)), (.ref b18)])) (fun t k => XS.lloadN X30.here hx rfl (hb hby at_226) rfl k) ?_
  refine own_by (B := T30.setTop (mkF m 229 #[.val (.long j0), .second, .val (.long j1), .second, .val (.int i2), .val (.int i3), .val (.ref b1), .val (.ref b18), .unset, .unset, .unset, .unset, .unset, .unset, .unset] [(.int (32 : Int32)), (.long j1), (.int (12 : Int32)), (.ref b18)])) (fun t k => XS.bipush X30.here hx rfl (hb hby at_227) k) ?_
  refine own_by (B := T30.setTop (mkF m 230 #[.val (.long j0), .second, .val (.long j1), .second, .val (.int i2), .val (.int i3), .val (.ref b1), .val (.ref b18), .unset, .unset, .unset, .unset, .unset, .unset, .unset] [(.long ((j1.toUInt64 >>> ((32 : Int32) &&& 0x3f).toInt64.toUInt64).toInt64)), (.int (12 : Int32)), (.ref b18)])) (fun t k => XS.lushr X30.here hx rfl (hb hby at_229) rfl k) ?_
  refine own_by (B := T30.setTop (mkF m 231 #[.val (.long j0), .second, .val (.long j1), .second, .val (.int i2), .val (.int i3), .val (.ref b1), .val (.ref b18), .unset, .unset, .unset, .unset, .unset, .unset, .unset] [(.int (((j1.toUInt64 >>> ((32 : Int32) &&& 0x3f).toInt64.toUInt64).toInt64).toInt32)), (.int (12 : Int32)), (.ref b18)])) (fun t k => XS.l2i X30.here hx rfl (hb hby at_230) rfl k) ?_
  refine own_by (B := T30.setTop (mkF m 232 #[.val (.long j0), .second, .val (.long j1), .second, .val (.int i2), .val (.int i3), .val (.ref b1), .val (.ref b18), .unset, .unset, .unset, .unset, .unset, .unset, .unset] [(.int ((((j1.toUInt64 >>> ((32 : Int32) &&& 0x3f).toInt64.toUInt64).toInt64).toInt32).toInt8.toInt32)), (.int (12 : Int32)), (.ref b18)])) (fun t k => XS.i2b X30.here hx rfl (hb hby at_231) rfl k) ?_
  obtain ⟨cl31, Ar31, hin31, -⟩ := V_b18.at (j := (12 : Int32)) ⟨by decide, by decide⟩
  obtain ⟨T31, h31, X31, e31, W31, st31⟩ := stB X30 hx hZ e30 Ar31 (j := (12 : Int32)) hin31 (g := (mkF m 232 #[.val (.long j0), .second, .val (.long j1), .second, .val (.int i2), .val (.int i3), .val (.ref b1), .val (.ref b18), .unset, .unset, .unset, .unset, .unset, .unset, .unset] [(.int ((((j1.toUInt64 >>> ((32 : Int32) &&& 0x3f).toInt64.toUInt64).toInt64).toInt32).toInt8.toInt32)), (.int (12 : Int32)), (.ref b18)])) rfl rfl (hb hby at_232)
  have V_wk := V_wk.other W31 ne_wk_b18
  have S_KEY := S_KEY.wr W31
  have V_b1 := V_b1.other W31 ne_b1_b18
  have V_b18 := V_b18.set W31
  have Zs : n0 ≤ h31.size := by rw [W31.size]; exact Zs
  have Nf := Fr.snoc X31 Nf g_b18
  obtain ⟨LhX31, X31, Nf⟩ := own_hide X31 Nf
  refine own_by (B := T31.setTop (mkF m 233 #[.val (.long j0), .second, .val (.long j1), .second, .val (.int i2), .val (.int i3), .val (.ref b1), .val (.ref b18), .unset, .unset, .unset, .unset, .unset, .unset, .unset] [])) st31 ?_
  refine own_by (B := T31.setTop (mkF m 235 #[.val (.long j0), .second, .val (.long j1), .second, .val (.int i2), .val (.int i3), .val (.ref b1), .val (.ref b18), .unset, .unset, .unset, .unset, .unset, .unset, .unset] [(.ref b18)])) (fun t k => XS.aload X31.here hx rfl (hb hby at_233) rfl rfl k) ?_
  refine own_by (B := T31.setTop (mkF m 237 #[.val (.long j0), .second, .val (.long j1), .second, .val (.int i2), .val (.int i3), .val (.ref b1), .val (.ref b18), .unset, .unset, .unset, .unset, .unset, .unset, .unset] [(.int (13 : Int32)), (.ref b18)])) (fun t k => XS.bipush X31.here hx rfl (hb hby at_235) k) ?_
  refine own_by (B := T31.setTop (mkF m 238 #[.val (.long j0), .second, .val (.long j1), .second, .val (.int i2), .val (.int i3), .val (.ref b1), .val (.ref b18), .unset, .unset, .unset, .unset, .unset, .unset, .unset] [(.long j1), (.int (13 : Int32)), (.ref b18)])) (fun t k => XS.lloadN X31.here hx rfl (hb hby at_237) rfl k) ?_
  refine own_by (B := T31.setTop (mkF m 240 #[.val (.long j0), .second, .val (.long j1), .second, .val (.int i2), .val (.int i3), .val (.ref b1), .val (.ref b18), .unset, .unset, .unset, .unset, .unset, .unset, .unset] [(.int (40 : Int32)), (.long j1), (.int (13 : Int32)), (.ref b18)])) (fun t k => XS.bipush X31.here hx rfl (hb hby at_238) k) ?_
  refine own_by (B := T31.setTop (mkF m 241 #[.val (.long j0), .second, .val (.long j1), .second, .val (.int i2), .val (.int i3), .val (.ref b1), .val (.ref b18), .unset, .unset, .unset, .unset, .unset, .unset, .unset] [(.long ((j1.toUInt64 >>> ((40 : Int32) &&& 0x3f).toInt64.toUInt64).toInt64)), (.int (13 : Int32)), (.ref b18)])) (fun t k => XS.lushr X31.here hx rfl (hb hby at_240) rfl k) ?_
  refine own_by (B := T31.setTop (mkF m 242 #[.val (.long j0), .second, .val (.long j1), .second, .val (.int i2), .val (.int i3), .val (.ref b1), .val (.ref b18), .unset, .unset, .unset, .unset, .unset, .unset, .unset] [(.int (((j1.toUInt64 >>> ((40 : Int32) &&& 0x3f).toInt64.toUInt64).toInt64).toInt32)), (.int (13 : Int32)), (.ref b18)])) (fun t k => XS.l2i X31.here hx rfl (hb hby at_241) rfl k) ?_
  refine own_by (B := T31.setTop (mkF m 243 #[.val (.long j0), .second, .val (.long j1), .second, .val (.int i2), .val (.int i3), .val (.ref b1), .val (.ref b18), .unset, .unset, .unset, .unset, .unset, .unset, .unset] [(.int ((((j1.toUInt64 >>> ((40 : Int32) &&& 0x3f).toInt64.toUInt64).toInt64).toInt32).toInt8.toInt32)), (.int (13 : Int32)), (.ref b18)])) (fun t k => XS.i2b X31.here hx rfl (hb hby at_242) rfl k) ?_
  obtain ⟨cl32, Ar32, hin32, -⟩ := V_b18.at (j := (13 : Int32)) ⟨by decide, by decide⟩
  obtain ⟨T32, h32, X32, e32, W32, st32⟩ := stB X31 hx hZ e31 Ar32 (j := (13 : Int32)) hin32 (g := (mkF m 243 #[.val (.long j0), .second, .val (.long j1), .second, .val (.int i2), .val (.int i3), .val (.ref b1), .val (.ref b18), .unset, .unset, .unset, .unset, .unset, .unset, .unset] [(.int ((((j1.toUInt64 >>> ((40 : Int32) &&& 0x3f).toInt64.toUInt64).toInt64).toInt32).toInt8.toInt32)), (.int (13 : Int32)), (.ref b18)])) rfl rfl (hb hby at_243)
  have V_wk := V_wk.other W32 ne_wk_b18
  have S_KEY := S_KEY.wr W32
  have V_b1 := V_b1.other W32 ne_b1_b18
  have V_b18 := V_b18.set W32
  have Zs : n0 ≤ h32.size := by rw [W32.size]; exact Zs
  have Nf := Fr.snoc X32 Nf g_b18
  obtain ⟨LhX32, X32, Nf⟩ := own_hide X32 Nf
  refine own_by (B := T32.setTop (mkF m 244 #[.val (.long j0), .second, .val (.long j1), .second, .val (.int i2), .val (.int i3), .val (.ref b1), .val (.ref b18), .unset, .unset, .unset, .unset, .unset, .unset, .unset] [])) st32 ?_
  refine own_by (B := T32.setTop (mkF m 246 #[.val (.long j0), .second, .val (.long j1), .second, .val (.int i2), .val (.int i3), .val (.ref b1), .val (.ref b18), .unset, .unset, .unset, .unset, .unset, .unset, .unset] [(.ref b18)])) (fun t k => XS.aload X32.here hx rfl (hb hby at_244) rfl rfl k) ?_
  refine own_by (B := T32.setTop (mkF m 248 #[.val (.long j0), .second, .val (.long j1), .second, .val (.int i2), .val (.int i3), .val (.ref b1), .val (.ref b18), .unset, .unset, .unset, .unset, .unset, .unset, .unset] [(.int (14 : Int32)), (.ref b18)])) (fun t k => XS.bipush X32.here hx rfl (hb hby at_246) k) ?_
  refine own_by (B := T32.setTop (mkF m 249 #[.val (.long j0), .second, .val (.long j1), .second, .val (.int i2), .val (.int i3), .val (.ref b1), .val (.ref b18), .unset, .unset, .unset, .unset, .unset, .unset, .unset] [(.long j1), (.int (14 : Int32)), (.ref b18)])) (fun t k => XS.lloadN X32.here hx rfl (hb hby at_248) rfl k) ?_
  refine own_by (B := T32.setTop (mkF m 251 #[.val (.long j0), .second, .val (.long j1), .second, .val (.int i2), .val (.int i3), .val (.ref b1), .val (.ref b18), .unset, .unset, .unset, .unset, .unset, .unset, .unset] [(.int (48 : Int32)), (.long j1), (.int (14 : Int32)), (.ref b18)])) (fun t k => XS.bipush X32.here hx rfl (hb hby at_249) k) ?_
  refine own_by (B := T32.setTop (mkF m 252 #[.val (.long j0), .second, .val (.long j1), .second, .val (.int i2), .val (.int i3), .val (.ref b1), .val (.ref b18), .unset, .unset, .unset, .unset, .unset, .unset, .unset] [(.long ((j1.toUInt64 >>> ((48 : Int32) &&& 0x3f).toInt64.toUInt64).toInt64)), (.int (14 : Int32)), (.ref b18)])) (fun t k => XS.lushr X32.here hx rfl (hb hby at_251) rfl k) ?_
  refine own_by (B := T32.setTop (mkF m 253 #[.val (.long j0), .second, .val (.long j1), .second, .val (.int i2), .val (.int i3), .val (.ref b1), .val (.ref b18), .unset, .unset, .unset, .unset, .unset, .unset, .unset] [(.int (((j1.toUInt64 >>> ((48 : Int32) &&& 0x3f).toInt64.toUInt64).toInt64).toInt32)), (.int (14 : Int32)), (.ref b18)])) (fun t k => XS.l2i X32.here hx rfl (hb hby at_252) rfl k) ?_
  refine own_by (B := T32.setTop (mkF m 254 #[.val (.long j0), .second, .val (.long j1), .second, .val (.int i2), .val (.int i3), .val (.ref b1), .val (.ref b18), .unset, .unset, .unset, .unset, .unset, .unset, .unset] [(.int ((((j1.toUInt64 >>> ((48 : Int32) &&& 0x3f).toInt64.toUInt64).toInt64).toInt32).toInt8.toInt32)), (.int (14 : Int32)), (.ref b18)])) (fun t k => XS.i2b X32.here hx rfl (hb hby at_253) rfl k) ?_
  obtain ⟨cl33, Ar33, hin33, -⟩ := V_b18.at (j := (14 : Int32)) ⟨by decide, by decide⟩
  obtain ⟨T33, h33, X33, e33, W33, st33⟩ := stB X32 hx hZ e32 Ar33 (j := (14 : Int32)) hin33 (g := (mkF m 254 #[.val (.long j0), .second, .val (.long j1), .second, .val (.int i2), .val (.int i3), .val (.ref b1), .val (.ref b18), .unset, .unset, .unset, .unset, .unset, .unset, .unset] [(.int ((((j1.toUInt64 >>> ((48 : Int32) &&& 0x3f).toInt64.toUInt64).toInt64).toInt32).toInt8.toInt32)), (.int (14 : Int32)), (.ref b18)])) rfl rfl (hb hby at_254)
  have V_wk := V_wk.other W33 ne_wk_b18
  have S_KEY := S_KEY.wr W33
  have V_b1 := V_b1.other W33 ne_b1_b18
  have V_b18 := V_b18.set W33
  have Zs : n0 ≤ h33.size := by rw [W33.size]; exact Zs
  have Nf := Fr.snoc X33 Nf g_b18
  obtain ⟨LhX33, X33, Nf⟩ := own_hide X33 Nf
  refine own_by (B := T33.setTop (mkF m 255 #[.val (.long j0), .second, .val (.long j1), .second, .val (.int i2), .val (.int i3), .val (.ref b1), .val (.ref b18), .unset, .unset, .unset, .unset, .unset, .unset, .unset] [])) st33 ?_
  refine own_by (B := T33.setTop (mkF m 257 #[.val (.long j0), .second, .val (.long j1), .second, .val (.int i2), .val (.int i3), .val (.ref b1), .val (.ref b18), .unset, .unset, .unset, .unset, .unset, .unset, .unset] [(.ref b18)])) (fun t k => XS.aload X33.here hx rfl (hb hby at_255) rfl rfl k) ?_
  refine own_by (B := T33.setTop (mkF m 259 #[.val (.long j0), .second, .val (.long j1), .second, .val (.int i2), .val (.int i3), .val (.ref b1), .val (.ref b18), .unset, .unset, .unset, .unset, .unset, .unset, .unset] [(.int (15 : Int32)), (.ref b18)])) (fun t k => XS.bipush X33.here hx rfl (hb hby at_257) k) ?_
  refine own_by (B := T33.setTop (mkF m 260 #[.val (.long j0), .second, .val (.long j1), .second, .val (.int i2), .val (.int i3), .val (.ref b1), .val (.ref b18), .unset, .unset, .unset, .unset, .unset, .unset, .unset] [(.long j1), (.int (15 : Int32)), (.ref b18)])) (fun t k => XS.lloadN X33.here hx rfl (hb hby at_259) rfl k) ?_
  refine own_by (B := T33.setTop (mkF m 262 #[.val (.long j0), .second, .val (.long j1), .second, .val (.int i2), .val (.int i3), .val (.ref b1), .val (.ref b18), .unset, .unset, .unset, .unset, .unset, .unset, .unset] [(.int (56 : Int32)), (.long j1), (.int (15 : Int32)), (.ref b18)])) (fun t k => XS.bipush X33.here hx rfl (hb hby at_260) k) ?_
  refine own_by (B := T33.setTop (mkF m 263 #[.val (.long j0), .second, .val (.long j1), .second, .val (.int i2), .val (.int i3), .val (.ref b1), .val (.ref b18), .unset, .unset, .unset, .unset, .unset, .unset, .unset] [(.long ((j1.toUInt64 >>> ((56 : Int32) &&& 0x3f).toInt64.toUInt64).toInt64)), (.int (15 : Int32)), (.ref b18)])) (fun t k => XS.lushr X33.here hx rfl (hb hby at_262) rfl k) ?_
  refine own_by (B := T33.setTop (mkF m 264 #[.val (.long j0), .second, .val (.long j1), .second, .val (.int i2), .val (.int i3), .val (.ref b1), .val (.ref b18), .unset, .unset, .unset, .unset, .unset, .unset, .unset] [(.int (((j1.toUInt64 >>> ((56 : Int32) &&& 0x3f).toInt64.toUInt64).toInt64).toInt32)), (.int (15 : Int32)), (.ref b18)])) (fun t k => XS.l2i X33.here hx rfl (hb hby at_263) rfl k) ?_
  refine own_by (B := T33.setTop (mkF m 265 #[.val (.long j0), .second, .val (.long j1), .second, .val (.int i2), .val (.int i3), .val (.ref b1), .val (.ref b18), .unset, .unset, .unset, .unset, .unset, .unset, .unset] [(.int ((((j1.toUInt64 >>> ((56 : Int32) &&& 0x3f).toInt64.toUInt64).toInt64).toInt32).toInt8.toInt32)), (.int (15 : Int32)), (.ref b18)])) (fun t k => XS.i2b X33.here hx rfl (hb hby at_264) rfl k) ?_
  obtain ⟨cl34, Ar34, hin34, -⟩ := V_b18.at (j := (15 : Int32)) ⟨by decide, by decide⟩
  obtain ⟨T34, h34, X34, e34, W34, st34⟩ := stB X33 hx hZ e33 Ar34 (j := (15 : Int32)) hin34 (g := (mkF m 265 #[.val (.long j0), .second, .val (.long j1), .second, .val (.int i2), .val (.int i3), .val (.ref b1), .val (.ref b18), .unset, .unset, .unset, .unset, .unset, .unset, .unset] [(.int ((((j1.toUInt64 >>> ((56 : Int32) &&& 0x3f).toInt64.toUInt64).toInt64).toInt32).toInt8.toInt32)), (.int (15 : Int32)), (.ref b18)])) rfl rfl (hb hby at_265)
  have V_wk := V_wk.other W34 ne_wk_b18
  have S_KEY := S_KEY.wr W34
  have V_b1 := V_b1.other W34 ne_b1_b18
  have V_b18 := V_b18.set W34
  have Zs : n0 ≤ h34.size := by rw [W34.size]; exact Zs
  have Nf := Fr.snoc X34 Nf g_b18
  obtain ⟨LhX34, X34, Nf⟩ := own_hide X34 Nf
  refine own_by (B := T34.setTop (mkF m 266 #[.val (.long j0), .second, .val (.long j1), .second, .val (.int i2), .val (.int i3), .val (.ref b1), .val (.ref b18), .unset, .unset, .unset, .unset, .unset, .unset, .unset] [])) st34 ?_
  refine own_by (B := T34.setTop (mkF m 268 #[.val (.long j0), .second, .val (.long j1), .second, .val (.int i2), .val (.int i3), .val (.ref b1), .val (.ref b18), .unset, .unset, .unset, .unset, .unset, .unset, .unset] [(.ref b18)])) (fun t k => XS.aload X34.here hx rfl (hb hby at_266) rfl rfl k) ?_
  refine own_by (B := T34.setTop (mkF m 270 #[.val (.long j0), .second, .val (.long j1), .second, .val (.int i2), .val (.int i3), .val (.ref b1), .val (.ref b18), .unset, .unset, .unset, .unset, .unset, .unset, .unset] [(.int (16 : Int32)), (.ref b18)])) (fun t k => XS.bipush X34.here hx rfl (hb hby at_268) k) ?_
  refine own_by (B := T34.setTop (mkF m 272 #[.val (.long j0), .second, .val (.long j1), .second, .val (.int i2), .val (.int i3), .val (.ref b1), .val (.ref b18), .unset, .unset, .unset, .unset, .unset, .unset, .unset] [(.int i2), (.int (16 : Int32)), (.ref b18)])) (fun t k => XS.iload X34.here hx rfl (hb hby at_270) rfl k) ?_
  refine own_by (B := T34.setTop (mkF m 273 #[.val (.long j0), .second, .val (.long j1), .second, .val (.int i2), .val (.int i3), .val (.ref b1), .val (.ref b18), .unset, .unset, .unset, .unset, .unset, .unset, .unset] [(.int (i2.toInt8.toInt32)), (.int (16 : Int32)), (.ref b18)])) (fun t k => XS.i2b X34.here hx rfl (hb hby at_272) rfl k) ?_
  obtain ⟨cl35, Ar35, hin35, -⟩ := V_b18.at (j := (16 : Int32)) ⟨by decide, by decide⟩
  obtain ⟨T35, h35, X35, e35, W35, st35⟩ := stB X34 hx hZ e34 Ar35 (j := (16 : Int32)) hin35 (g := (mkF m 273 #[.val (.long j0), .second, .val (.long j1), .second, .val (.int i2), .val (.int i3), .val (.ref b1), .val (.ref b18), .unset, .unset, .unset, .unset, .unset, .unset, .unset] [(.int (i2.toInt8.toInt32)), (.int (16 : Int32)), (.ref b18)])) rfl rfl (hb hby at_273)
  have V_wk := V_wk.other W35 ne_wk_b18
  have S_KEY := S_KEY.wr W35
  have V_b1 := V_b1.other W35 ne_b1_b18
  have V_b18 := V_b18.set W35
  have Zs : n0 ≤ h35.size := by rw [W35.size]; exact Zs
  have Nf := Fr.snoc X35 Nf g_b18
  obtain ⟨LhX35, X35, Nf⟩ := own_hide X35 Nf
  refine own_by (B := T35.setTop (mkF m 274 #[.val (.long j0), .second, .val (.long j1), .second, .val (.int i2), .val (.int i3), .val (.ref b1), .val (.ref b18), .unset, .unset, .unset, .unset, .unset, .unset, .unset] [])) st35 ?_
  refine own_by (B := T35.setTop (mkF m 276 #[.val (.long j0), .second, .val (.long j1), .second, .val (.int i2), .val (.int i3), .val (.ref b1), .val (.ref b18), .unset, .unset, .unset, .unset, .unset, .unset, .unset] [(.ref b18)])) (fun t k => XS.aload X35.here hx rfl (hb hby at_274) rfl rfl k) ?_
  refine own_by (B := T35.setTop (mkF m 278 #[.val (.long j0), .second, .val (.long j1), .second, .val (.int i2), .val (.int i3), .val (.ref b1), .val (.ref b18), .unset, .unset, .unset, .unset, .unset, .unset, .unset] [(.int (17 : Int32)), (.ref b18)])) (fun t k => XS.bipush X35.here hx rfl (hb hby at_276) k) ?_
  refine own_by (B := T35.setTop (mkF m 280 #[.val (.long j0), .second, .val (.long j1), .second, .val (.int i2), .val (.int i3), .val (.ref b1), .val (.ref b18), .unset, .unset, .unset, .unset, .unset, .unset, .unset] [(.int i2), (.int (17 : Int32)), (.ref b18)])) (fun t k => XS.iload X35.here hx rfl (hb hby at_278) rfl k) ?_
  refine own_by (B := T35.setTop (mkF m 282 #[.val (.long j0), .second, .val (.long j1), .second, .val (.int i2), .val (.int i3), .val (.ref b1), .val (.ref b18), .unset, .unset, .unset, .unset, .unset, .unset, .unset] [(.int (8 : Int32)), (.int i2), (.int (17 : Int32)), (.ref b18)])) (fun t k => XS.bipush X35.here hx rfl (hb hby at_280) k) ?_
  refine own_by (B := T35.setTop (mkF m 283 #[.val (.long j0), .second, .val (.long j1), .second, .val (.int i2), .val (.int i3), .val (.ref b1), .val (.ref b18), .unset, .unset, .unset, .unset, .unset, .unset, .unset] [(.int ((i2.toUInt32 >>> ((8 : Int32) &&& 31).toUInt32).toInt32)), (.int (17 : Int32)), (.ref b18)])) (fun t k => XS.iushr X35.here hx rfl (hb hby at_282) rfl k) ?_
  refine own_by (B := T35.setTop (mkF m 284 #[.val (.long j0), .second, .val (.long j1), .second, .val (.int i2), .val (.int i3), .val (.ref b1), .val (.ref b18), .unset, .unset, .unset, .unset, .unset, .unset, .unset] [(.int (((i2.toUInt32 >>> ((8 : Int32) &&& 31).toUInt32).toInt32).toInt8.toInt32)), (.int (17 : Int32)), (.ref b18)])) (fun t k => XS.i2b X35.here hx rfl (hb hby at_283) rfl k) ?_
  obtain ⟨cl36, Ar36, hin36, -⟩ := V_b18.at (j := (17 : Int32)) ⟨by decide, by decide⟩
  obtain ⟨T36, h36, X36, e36, W36, st36⟩ := stB X35 hx hZ e35 Ar36 (j := (17 : Int32)) hin36 (g := (mkF m 284 #[.val (.long j0), .second, .val (.long j1), .second, .val (.int i2), .val (.int i3), .val (.ref b1), .val (.ref b18), .unset, .unset, .unset, .unset, .unset, .unset, .unset] [(.int (((i2.toUInt32 >>> ((8 : Int32) &&& 31).toUInt32).toInt32).toInt8.toInt32)), (.int (17 : Int32)), (.ref b18)])) rfl rfl (hb hby at_284)
  have V_wk := V_wk.other W36 ne_wk_b18
  have S_KEY := S_KEY.wr W36
  have V_b1 := V_b1.other W36 ne_b1_b18
  have V_b18 := V_b18.set W36
  have Zs : n0 ≤ h36.size := by rw [W36.size]; exact Zs
  have Nf := Fr.snoc X36 Nf g_b18
  obtain ⟨LhX36, X36, Nf⟩ := own_hide X36 Nf
  refine own_by (B := T36.setTop (mkF m 285 #[.val (.long j0), .second, .val (.long j1), .second, .val (.int i2), .val (.int i3), .val (.ref b1), .val (.ref b18), .unset, .unset, .unset, .unset, .unset, .unset, .unset] [])) st36 ?_
  obtain ⟨fp, V_b18, hfp⟩ : ∃ f, own_Arf Z h36 b18 .byte (18 : Int32) f ∧ ∀ t, t < 18 → ∃ x, f t = .int x := ⟨_, V_b18, fun t ht => by
    rcases (show t = 0 ∨ t = 1 ∨ t = 2 ∨ t = 3 ∨ t = 4 ∨ t = 5 ∨ t = 6 ∨ t = 7 ∨ t = 8 ∨ t = 9 ∨ t = 10 ∨ t = 11 ∨ t = 12 ∨ t = 13 ∨ t = 14 ∨ t = 15 ∨ t = 16 ∨ t = 17 by omega) with rfl | rfl | rfl | rfl | rfl | rfl | rfl | rfl | rfl | rfl | rfl | rfl | rfl | rfl | rfl | rfl | rfl | rfl <;> exact ⟨_, rfl⟩⟩
  refine own_by (B := T36.setTop (mkF m 287 #[.val (.long j0), .second, .val (.long j1), .second, .val (.int i2), .val (.int i3), .val (.ref b1), .val (.ref b18), .unset, .unset, .unset, .unset, .unset, .unset, .unset] [(.int i3)])) (fun t k => XS.iload X36.here hx rfl (hb hby at_285) rfl k) ?_
  refine own_by (B := T36.setTop (mkF m 289 #[.val (.long j0), .second, .val (.long j1), .second, .val (.int i2), .val (.int i3), .val (.ref b1), .val (.ref b18), .unset, .unset, .unset, .unset, .unset, .unset, .unset] [(.int (63 : Int32)), (.int i3)])) (fun t k => XS.bipush X36.here hx rfl (hb hby at_287) k) ?_
  refine own_by (B := T36.setTop (mkF m 290 #[.val (.long j0), .second, .val (.long j1), .second, .val (.int i2), .val (.int i3), .val (.ref b1), .val (.ref b18), .unset, .unset, .unset, .unset, .unset, .unset, .unset] [(.int (i3 &&& (63 : Int32)))])) (fun t k => XS.iand X36.here hx rfl (hb hby at_289) rfl k) ?_
  refine own_by (B := T36.setTop (mkF m 292 #[.val (.long j0), .second, .val (.long j1), .second, .val (.int i2), .val (.int i3), .val (.ref b1), .val (.ref b18), .val (.int (i3 &&& (63 : Int32))), .unset, .unset, .unset, .unset, .unset, .unset] [])) (fun t k => XS.istore X36.here hx rfl (hb hby at_290) rfl (l' := #[.val (.long j0), .second, .val (.long j1), .second, .val (.int i2), .val (.int i3), .val (.ref b1), .val (.ref b18), .val (.int (i3 &&& (63 : Int32))), .unset, .unset, .unset, .unset, .unset, .unset]) rfl k) ?_
  obtain ⟨n, hn64, hne⟩ := own_len63 i3
  rw [show (i3 &&& (63 : Int32)) = (Int32.ofNat n) from hne]
  by_cases hz : n = 0
  · subst hz
    refine own_by (B := T36.setTop (mkF m 294 #[.val (.long j0), .second, .val (.long j1), .second, .val (.int i2), .val (.int i3), .val (.ref b1), .val (.ref b18), .val (.int (0 : Int32)), .unset, .unset, .unset, .unset, .unset, .unset] [(.int (0 : Int32))])) (fun t k => XS.iload X36.here hx rfl (hb hby at_292) rfl k) ?_
    obtain ⟨T37, h37, k37, X37, e37, E37, A37, st37⟩ := newP X36 hx hZ (hw _ (List.mem_of_getElem? (i := 0) rfl)) e36 (g := (mkF m 294 #[.val (.long j0), .second, .val (.long j1), .second, .val (.int i2), .val (.int i3), .val (.ref b1), .val (.ref b18), .val (.int (0 : Int32)), .unset, .unset, .unset, .unset, .unset, .unset] [(.int (0 : Int32))])) rfl (hb hby at_294) rfl (by decide) (cap := 0) (by decide) (by decide) (by decide) (by decide)
    obtain ⟨b37, gq37⟩ : ∃ z, z = h36.size := ⟨_, rfl⟩
    rw [← gq37] at A37 st37
    have ne_wk_b37 : wk ≠ b37 := Nat.ne_of_lt (Nat.lt_of_lt_of_le V_wk.lt (Nat.le_of_eq gq37.symm))
    have ne_b1_b37 : b1 ≠ b37 := Nat.ne_of_lt (Nat.lt_of_lt_of_le V_b1.lt (Nat.le_of_eq gq37.symm))
    have ne_b18_b37 : b18 ≠ b37 := Nat.ne_of_lt (Nat.lt_of_lt_of_le V_b18.lt (Nat.le_of_eq gq37.symm))
    have g_b37 : n0 ≤ b37 := Nat.le_trans Zs (Nat.le_of_eq gq37.symm)
    have V_wk := V_wk.ext E37
    have S_KEY := S_KEY.ext E37
    have V_b1 := V_b1.ext E37
    have V_b18 := V_b18.ext E37
    have Zs := Nat.le_trans Zs E37.1
    have V_b37 := own_Arf.new A37 (by decide)
    refine own_by (B := T37.setTop (mkF m 296 #[.val (.long j0), .second, .val (.long j1), .second, .val (.int i2), .val (.int i3), .val (.ref b1), .val (.ref b18), .val (.int (0 : Int32)), .unset, .unset, .unset, .unset, .unset, .unset] [(.ref b37)])) st37 ?_
    refine own_by (B := T37.setTop (mkF m 298 #[.val (.long j0), .second, .val (.long j1), .second, .val (.int i2), .val (.int i3), .val (.ref b1), .val (.ref b18), .val (.int (0 : Int32)), .val (.ref b37), .unset, .unset, .unset, .unset, .unset] [])) (fun t k => XS.astore X37.here hx rfl (hb hby at_296) rfl rfl (l' := #[.val (.long j0), .second, .val (.long j1), .second, .val (.int i2), .val (.int i3), .val (.ref b1), .val (.ref b18), .val (.int (0 : Int32)), .val (.ref b37), .unset, .unset, .unset, .unset, .unset]) rfl k) ?_
    refine own_by (B := T37.setTop (mkF m 300 #[.val (.long j0), .second, .val (.long j1), .second, .val (.int i2), .val (.int i3), .val (.ref b1), .val (.ref b18), .val (.int (0 : Int32)), .val (.ref b37), .unset, .unset, .unset, .unset, .unset] [(.int (0 : Int32))])) (fun t k => XS.iload X37.here hx rfl (hb hby at_298) rfl k) ?_
    refine own_by (B := T37.setTop (mkF m 303 #[.val (.long j0), .second, .val (.long j1), .second, .val (.int i2), .val (.int i3), .val (.ref b1), .val (.ref b18), .val (.int (0 : Int32)), .val (.ref b37), .unset, .unset, .unset, .unset, .unset] [])) (fun t k => XS.ifNo X37.here hx rfl (hb hby at_300) rfl ((if0 _ _).trans (teq (by decide)).2) k) ?_
    refine own_by (B := T37.setTop (mkF m 304 #[.val (.long j0), .second, .val (.long j1), .second, .val (.int i2), .val (.int i3), .val (.ref b1), .val (.ref b18), .val (.int (0 : Int32)), .val (.ref b37), .unset, .unset, .unset, .unset, .unset] [(.int (0 : Int32))])) (fun t k => XS.iconst X37.here hx rfl (hb hby at_303) k) ?_
    refine own_by (B := T37.setTop (mkF m 315 #[.val (.long j0), .second, .val (.long j1), .second, .val (.int i2), .val (.int i3), .val (.ref b1), .val (.ref b18), .val (.int (0 : Int32)), .val (.ref b37), .unset, .unset, .unset, .unset, .unset] [(.int (0 : Int32))])) (fun t k => XS.goto X37.here hx rfl (pc0 := 304) (pc' := 315) rfl (hb hby at_304) (by decide) (by decide) k) ?_
    refine own_by (B := T37.setTop (mkF m 317 #[.val (.long j0), .second, .val (.long j1), .second, .val (.int i2), .val (.int i3), .val (.ref b1), .val (.ref b18), .val (.int (0 : Int32)), .val (.ref b37), .val (.int (0 : Int32)), .unset, .unset, .unset, .unset] [])) (fun t k => XS.istore X37.here hx rfl (hb hby at_315) rfl (l' := #[.val (.long j0), .second, .val (.long j1), .second, .val (.int i2), .val (.int i3), .val (.ref b1), .val (.ref b18), .val (.int (0 : Int32)), .val (.ref b37), .val (.int (0 : Int32)), .unset, .unset, .unset, .unset]) rfl k) ?_
    refine own_by (B := T37.setTop (mkF m 319 #[.val (.long j0), .second, .val (.long j1), .second, .val (.int i2), .val (.int i3), .val (.ref b1), .val (.ref b18), .val (.int (0 : Int32)), .val (.ref b37), .val (.int (0 : Int32)), .unset, .unset, .unset, .unset] [(.int (0 : Int32))])) (fun t k => XS.iload X37.here hx rfl (hb hby at_317) rfl k) ?_
    refine own_by (B := T37.setTop (mkF m 322 #[.val (.long j0), .second, .val (.long j1), .second, .val (.int i2), .val (.int i3), .val (.ref b1), .val (.ref b18), .val (.int (0 : Int32)), .val (.ref b37), .val (.int (0 : Int32)), .unset, .unset, .unset, .unset] [])) (fun t k => XS.ifNo X37.here hx rfl (hb hby at_319) rfl ((if0 _ _).trans (teq (by decide)).2) k) ?_
    refine own_by (B := T37.setTop (mkF m 323 #[.val (.long j0), .second, .val (.long j1), .second, .val (.int i2), .val (.int i3), .val (.ref b1), .val (.ref b18), .val (.int (0 : Int32)), .val (.ref b37), .val (.int (0 : Int32)), .unset, .unset, .unset, .unset] [(.int (0 : Int32))])) (fun t k => XS.iconst X37.here hx rfl (hb hby at_322) k) ?_
    refine own_by (B := T37.setTop (mkF m 334 #[.val (.long j0), .second, .val (.long j1), .second, .val (.int i2), .val (.int i3), .val (.ref b1), .val (.ref b18), .val (.int (0 : Int32)), .val (.ref b37), .val (.int (0 : Int32)), .unset, .unset, .unset, .unset] [(.int (0 : Int32))])) (fun t k => XS.goto X37.here hx rfl (pc0 := 323) (pc' := 334) rfl (hb hby at_323) (by decide) (by decide) k) ?_
    refine own_by (B := T37.setTop (mkF m 336 #[.val (.long j0), .second, .val (.long j1), .second, .val (.int i2), .val (.int i3), .val (.ref b1), .val (.ref b18), .val (.int (0 : Int32)), .val (.ref b37), .val (.int (0 : Int32)), .val (.int (0 : Int32)), .unset, .unset, .unset] [])) (fun t k => XS.istore X37.here hx rfl (hb hby at_334) rfl (l' := #[.val (.long j0), .second, .val (.long j1), .second, .val (.int i2), .val (.int i3), .val (.ref b1), .val (.ref b18), .val (.int (0 : Int32)), .val (.ref b37), .val (.int (0 : Int32)), .val (.int (0 : Int32)), .unset, .unset, .unset]) rfl k) ?_
    refine own_by (B := T37.setTop (mkF m 338 #[.val (.long j0), .second, .val (.long j1), .second, .val (.int i2), .val (.int i3), .val (.ref b1), .val (.ref b18), .val (.int (0 : Int32)), .val (.ref b37), .val (.int (0 : Int32)), .val (.int (0 : Int32)), .unset, .unset, .unset] [(.int (0 : Int32))])) (fun t k => XS.iload X37.here hx rfl (hb hby at_336) rfl k) ?_
    refine own_by (B := T37.setTop (mkF m 352 #[.val (.long j0), .second, .val (.long j1), .second, .val (.int i2), .val (.int i3), .val (.ref b1), .val (.ref b18), .val (.int (0 : Int32)), .val (.ref b37), .val (.int (0 : Int32)), .val (.int (0 : Int32)), .unset, .unset, .unset] [])) (fun t k => XS.ifYes X37.here hx rfl (pc0 := 338) (pc' := 352) rfl (hb hby at_338) rfl ((if0 _ _).trans (flt (by decide)).2.2.2) (by decide) (by decide) k) ?_
    refine own_by (B := T37.setTop (mkF m 354 #[.val (.long j0), .second, .val (.long j1), .second, .val (.int i2), .val (.int i3), .val (.ref b1), .val (.ref b18), .val (.int (0 : Int32)), .val (.ref b37), .val (.int (0 : Int32)), .val (.int (0 : Int32)), .unset, .unset, .unset] [(.ref b18)])) (fun t k => XS.aload X37.here hx rfl (hb hby at_352) rfl rfl k) ?_
    obtain ⟨_, _, ⟨T38, L38, k38, n38⟩, -, X38, ⟨Lc38, hQ38, l38, y38, z38⟩, st38⟩ := Jvm.LawKit.callS X37 hx (y := (⟨"com/example/palaver/palaver/protocol/FlapLogin", "roast", "([B)[B"⟩ : MethodName)) hown (mvT hZ (hw _ (List.mem_of_getElem? (i := 1) rfl))) (mvT hZ (hw _ (List.mem_of_getElem? (i := 2) rfl))) (mvT hZ (hw _ (List.mem_of_getElem? (i := 3) rfl))) (mvT hZ (hw _ (List.mem_of_getElem? (i := 4) rfl))) (by decide) (backOf (W := 0) (rmR l Z a0 hw [] b18 wk 18 fp h37 n0 Zs V_b18 V_wk S_KEY (by omega) hfp) hZ (hw _ (List.mem_of_getElem? (i := 4) rfl)) (hw _ (List.mem_of_getElem? (i := 3) rfl)) (by decide) (by decide)) (g := (mkF m 354 #[.val (.long j0), .second, .val (.long j1), .second, .val (.int i2), .val (.int i3), .val (.ref b1), .val (.ref b18), .val (.int (0 : Int32)), .val (.ref b37), .val (.int (0 : Int32)), .val (.int (0 : Int32)), .unset, .unset, .unset] [(.ref b18)])) rfl (by rw [hml]; rfl) (argsL := [(.ref b18)]) (rest := []) (lenOf own_pd0 rfl) rfl (by show 2 * 0 + _ ≤ _; exact Nat.le_of_eq rfl) (hb hby at_354) (fun _ _ => ⟨rfl, e37, (by decide : 3 + 1 ≤ _), (by decide : 34 + 63 ≤ _)⟩)
    dsimp only [Pt.U, Pt.locs, Pt.cells, Pt.slots] at X38 l38 y38 z38 st38 hQ38
    subst l38 y38 z38
    obtain ⟨rfl, Nq38, Kc38, Vc38⟩ := hQ38
    have Nf := Fr.app Nf Nq38
    obtain ⟨LhX38, X38, Nf⟩ := own_hide X38 Nf
    obtain ⟨b38, gq38⟩ : ∃ z, z = h37.size := ⟨_, rfl⟩
    rw [← gq38] at Vc38 st38
    have ne_wk_b38 : wk ≠ b38 := Nat.ne_of_lt (Nat.lt_of_lt_of_le V_wk.lt (Nat.le_of_eq gq38.symm))
    have ne_b1_b38 : b1 ≠ b38 := Nat.ne_of_lt (Nat.lt_of_lt_of_le V_b1.lt (Nat.le_of_eq gq38.symm))
    have ne_b18_b38 : b18 ≠ b38 := Nat.ne_of_lt (Nat.lt_of_lt_of_le V_b18.lt (Nat.le_of_eq gq38.symm))
    have ne_b37_b38 : b37 ≠ b38 := Nat.ne_of_lt (Nat.lt_of_lt_of_le V_b37.lt (Nat.le_of_eq gq38.symm))
    have g_b38 : n0 ≤ b38 := Nat.le_trans Zs (Nat.le_of_eq gq38.symm)
    have V_wk := V_wk.keep Kc38 nin0
    have S_KEY := own_sta_keep S_KEY Kc38
    have V_b1 := V_b1.keep Kc38 nin0
    have V_b18 := V_b18.keep Kc38 nin0
    have V_b37 := V_b37.keep Kc38 nin0
    have Zs := Nat.le_trans Zs Kc38.1
    have V_b38 := Vc38
    refine own_by (B := T38.setTop (mkF m 357 #[.val (.long j0), .second, .val (.long j1), .second, .val (.int i2), .val (.int i3), .val (.ref b1), .val (.ref b18), .val (.int (0 : Int32)), .val (.ref b37), .val (.int (0 : Int32)), .val (.int (0 : Int32)), .unset, .unset, .unset] [(.ref b38)])) st38 ?_
    refine own_by (B := T38.setTop (mkF m 359 #[.val (.long j0), .second, .val (.long j1), .second, .val (.int i2), .val (.int i3), .val (.ref b1), .val (.ref b18), .val (.int (0 : Int32)), .val (.ref b37), .val (.int (0 : Int32)), .val (.int (0 : Int32)), .val (.ref b38), .unset, .unset] [])) (fun t k => XS.astore X38.here hx rfl (hb hby at_357) rfl rfl (l' := #[.val (.long j0), .second, .val (.long j1), .second, .val (.int i2), .val (.int i3), .val (.ref b1), .val (.ref b18), .val (.int (0 : Int32)), .val (.ref b37), .val (.int (0 : Int32)), .val (.int (0 : Int32)), .val (.ref b38), .unset, .unset]) rfl k) ?_
    refine own_by (B := T38.setTop (mkF m 361 #[.val (.long j0), .second, .val (.long j1), .second, .val (.int i2), .val (.int i3), .val (.ref b1), .val (.ref b18), .val (.int (0 : Int32)), .val (.ref b37), .val (.int (0 : Int32)), .val (.int (0 : Int32)), .val (.ref b38), .unset, .unset] [(.ref b37)])) (fun t k => XS.aload X38.here hx rfl (hb hby at_359) rfl rfl k) ?_
    obtain ⟨_, _, ⟨T39, L39, k39, n39⟩, -, X39, ⟨Lc39, hQ39, l39, y39, z39⟩, st39⟩ := Jvm.LawKit.callS X38 hx (y := (⟨"com/example/palaver/palaver/protocol/FlapLogin", "roast", "([B)[B"⟩ : MethodName)) hown (mvT hZ (hw _ (List.mem_of_getElem? (i := 1) rfl))) (mvT hZ (hw _ (List.mem_of_getElem? (i := 2) rfl))) (mvT hZ (hw _ (List.mem_of_getElem? (i := 3) rfl))) (mvT hZ (hw _ (List.mem_of_getElem? (i := 4) rfl))) (by decide) (backOf (W := 0) (rmR l Z a0 hw [] b37 wk 0 (fun _ => .int 0) T38.heap n0 Zs V_b37 V_wk S_KEY (by omega) (fun t ht => absurd ht (Nat.not_lt_zero t))) hZ (hw _ (List.mem_of_getElem? (i := 4) rfl)) (hw _ (List.mem_of_getElem? (i := 3) rfl)) (by decide) (by decide)) (g := (mkF m 361 #[.val (.long j0), .second, .val (.long j1), .second, .val (.int i2), .val (.int i3), .val (.ref b1), .val (.ref b18), .val (.int (0 : Int32)), .val (.ref b37), .val (.int (0 : Int32)), .val (.int (0 : Int32)), .val (.ref b38), .unset, .unset] [(.ref b37)])) rfl (by rw [hml]; rfl) (argsL := [(.ref b37)]) (rest := []) (lenOf own_pd0 rfl) rfl (by show 2 * 0 + _ ≤ _; exact Nat.le_of_eq rfl) (hb hby at_361) (fun _ _ => ⟨rfl, rfl, (by decide : 4 + 1 ≤ _), (by decide : 97 + 63 ≤ _)⟩)
    dsimp only [Pt.U, Pt.locs, Pt.cells, Pt.slots] at X39 l39 y39 z39 st39 hQ39
    subst l39 y39 z39
    obtain ⟨rfl, Nq39, Kc39, Vc39⟩ := hQ39
    have Nf := Fr.app Nf Nq39
    obtain ⟨LhX39, X39, Nf⟩ := own_hide X39 Nf
    obtain ⟨b39, gq39⟩ : ∃ z, z = T38.heap.size := ⟨_, rfl⟩
    rw [← gq39] at Vc39 st39
    have ne_wk_b39 : wk ≠ b39 := Nat.ne_of_lt (Nat.lt_of_lt_of_le V_wk.lt (Nat.le_of_eq gq39.symm))
    have ne_b1_b39 : b1 ≠ b39 := Nat.ne_of_lt (Nat.lt_of_lt_of_le V_b1.lt (Nat.le_of_eq gq39.symm))
    have ne_b18_b39 : b18 ≠ b39 := Nat.ne_of_lt (Nat.lt_of_lt_of_le V_b18.lt (Nat.le_of_eq gq39.symm))
    have ne_b37_b39 : b37 ≠ b39 := Nat.ne_of_lt (Nat.lt_of_lt_of_le V_b37.lt (Nat.le_of_eq gq39.symm))
    have ne_b38_b39 : b38 ≠ b39 := Nat.ne_of_lt (Nat.lt_of_lt_of_le V_b38.lt (Nat.le_of_eq gq39.symm))
    have g_b39 : n0 ≤ b39 := Nat.le_trans Zs (Nat.le_of_eq gq39.symm)
    have V_wk := V_wk.keep Kc39 nin0
    have S_KEY := own_sta_keep S_KEY Kc39
    have V_b1 := V_b1.keep Kc39 nin0
    have V_b18 := V_b18.keep Kc39 nin0
    have V_b37 := V_b37.keep Kc39 nin0
    have V_b38 := V_b38.keep Kc39 nin0
    have Zs := Nat.le_trans Zs Kc39.1
    have V_b39 := Vc39
    refine own_by (B := T39.setTop (mkF m 364 #[.val (.long j0), .second, .val (.long j1), .second, .val (.int i2), .val (.int i3), .val (.ref b1), .val (.ref b18), .val (.int (0 : Int32)), .val (.ref b37), .val (.int (0 : Int32)), .val (.int (0 : Int32)), .val (.ref b38), .unset, .unset] [(.ref b39)])) st39 ?_
    refine own_by (B := T39.setTop (mkF m 366 #[.val (.long j0), .second, .val (.long j1), .second, .val (.int i2), .val (.int i3), .val (.ref b1), .val (.ref b18), .val (.int (0 : Int32)), .val (.ref b37), .val (.int (0 : Int32)), .val (.int (0 : Int32)), .val (.ref b38), .val (.ref b39), .unset] [])) (fun t k => XS.astore X39.here hx rfl (hb hby at_364) rfl rfl (l' := #[.val (.long j0), .second, .val (.long j1), .second, .val (.int i2), .val (.int i3), .val (.ref b1), .val (.ref b18), .val (.int (0 : Int32)), .val (.ref b37), .val (.int (0 : Int32)), .val (.int (0 : Int32)), .val (.ref b38), .val (.ref b39), .unset]) rfl k) ?_
    refine own_by (B := T39.setTop (mkF m 368 #[.val (.long j0), .second, .val (.long j1), .second, .val (.int i2), .val (.int i3), .val (.ref b1), .val (.ref b18), .val (.int (0 : Int32)), .val (.ref b37), .val (.int (0 : Int32)), .val (.int (0 : Int32)), .val (.ref b38), .val (.ref b39), .unset] [(.ref b38)])) (fun t k => XS.aload X39.here hx rfl (hb hby at_366) rfl rfl k) ?_
    obtain ⟨cl40, Ar40, Sz40, Ng40, -⟩ := id V_b38
    refine own_by (B := T39.setTop (mkF m 369 #[.val (.long j0), .second, .val (.long j1), .second, .val (.int i2), .val (.int i3), .val (.ref b1), .val (.ref b18), .val (.int (0 : Int32)), .val (.ref b37), .val (.int (0 : Int32)), .val (.int (0 : Int32)), .val (.ref b38), .val (.ref b39), .unset] [(.int (18 : Int32))])) (fun t k => X39.arraylength hx Ar40.1 (State.isArrayOf_alike hZ.alike Ar40.2.1) (g := (mkF m 368 #[.val (.long j0), .second, .val (.long j1), .second, .val (.int i2), .val (.int i3), .val (.ref b1), .val (.ref b18), .val (.int (0 : Int32)), .val (.ref b37), .val (.int (0 : Int32)), .val (.int (0 : Int32)), .val (.ref b38), .val (.ref b39), .unset] [(.ref b38)])) rfl rfl (hb hby at_368) _ (by rw [len_of Sz40 Ng40]; exact k)) ?_
    refine own_by (B := T39.setTop (mkF m 371 #[.val (.long j0), .second, .val (.long j1), .second, .val (.int i2), .val (.int i3), .val (.ref b1), .val (.ref b18), .val (.int (0 : Int32)), .val (.ref b37), .val (.int (0 : Int32)), .val (.int (0 : Int32)), .val (.ref b38), .val (.ref b39), .unset] [(.int (18 : Int32)), (.int (18 : Int32))])) (fun t k => XS.bipush X39.here hx rfl (hb hby at_369) k) ?_
    refine own_by (B := T39.setTop (mkF m 374 #[.val (.long j0), .second, .val (.long j1), .second, .val (.int i2), .val (.int i3), .val (.ref b1), .val (.ref b18), .val (.int (0 : Int32)), .val (.ref b37), .val (.int (0 : Int32)), .val (.int (0 : Int32)), .val (.ref b38), .val (.ref b39), .unset] [])) (fun t k => XS.icmpNo X39.here hx rfl (hb hby at_371) rfl (teq (by decide)).2 k) ?_
    refine own_by (B := T39.setTop (mkF m 376 #[.val (.long j0), .second, .val (.long j1), .second, .val (.int i2), .val (.int i3), .val (.ref b1), .val (.ref b18), .val (.int (0 : Int32)), .val (.ref b37), .val (.int (0 : Int32)), .val (.int (0 : Int32)), .val (.ref b38), .val (.ref b39), .unset] [(.ref b39)])) (fun t k => XS.aload X39.here hx rfl (hb hby at_374) rfl rfl k) ?_
    obtain ⟨cl41, Ar41, Sz41, Ng41, -⟩ := id V_b39
    refine own_by (B := T39.setTop (mkF m 377 #[.val (.long j0), .second, .val (.long j1), .second, .val (.int i2), .val (.int i3), .val (.ref b1), .val (.ref b18), .val (.int (0 : Int32)), .val (.ref b37), .val (.int (0 : Int32)), .val (.int (0 : Int32)), .val (.ref b38), .val (.ref b39), .unset] [(.int (0 : Int32))])) (fun t k => X39.arraylength hx Ar41.1 (State.isArrayOf_alike hZ.alike Ar41.2.1) (g := (mkF m 376 #[.val (.long j0), .second, .val (.long j1), .second, .val (.int i2), .val (.int i3), .val (.ref b1), .val (.ref b18), .val (.int (0 : Int32)), .val (.ref b37), .val (.int (0 : Int32)), .val (.int (0 : Int32)), .val (.ref b38), .val (.ref b39), .unset] [(.ref b39)])) rfl rfl (hb hby at_376) _ (by rw [len_of Sz41 Ng41]; exact k)) ?_
    refine own_by (B := T39.setTop (mkF m 379 #[.val (.long j0), .second, .val (.long j1), .second, .val (.int i2), .val (.int i3), .val (.ref b1), .val (.ref b18), .val (.int (0 : Int32)), .val (.ref b37), .val (.int (0 : Int32)), .val (.int (0 : Int32)), .val (.ref b38), .val (.ref b39), .unset] [(.int (0 : Int32)), (.int (0 : Int32))])) (fun t k => XS.iload X39.here hx rfl (hb hby at_377) rfl k) ?_
    refine own_by (B := T39.setTop (mkF m 384 #[.val (.long j0), .second, .val (.long j1), .second, .val (.int i2), .val (.int i3), .val (.ref b1), .val (.ref b18), .val (.int (0 : Int32)), .val (.ref b37), .val (.int (0 : Int32)), .val (.int (0 : Int32)), .val (.ref b38), .val (.ref b39), .unset] [])) (fun t k => XS.icmpYes X39.here hx rfl (pc0 := 379) (pc' := 384) rfl (hb hby at_379) rfl (teq (by decide)).1 (by decide) (by decide) k) ?_
    refine own_by (B := T39.setTop (mkF m 386 #[.val (.long j0), .second, .val (.long j1), .second, .val (.int i2), .val (.int i3), .val (.ref b1), .val (.ref b18), .val (.int (0 : Int32)), .val (.ref b37), .val (.int (0 : Int32)), .val (.int (0 : Int32)), .val (.ref b38), .val (.ref b39), .unset] [(.ref b18)])) (fun t k => XS.aload X39.here hx rfl (hb hby at_384) rfl rfl k) ?_
    refine own_by (B := T39.setTop (mkF m 388 #[.val (.long j0), .second, .val (.long j1), .second, .val (.int i2), .val (.int i3), .val (.ref b1), .val (.ref b18), .val (.int (0 : Int32)), .val (.ref b37), .val (.int (0 : Int32)), .val (.int (0 : Int32)), .val (.ref b38), .val (.ref b39), .unset] [(.ref b38), (.ref b18)])) (fun t k => XS.aload X39.here hx rfl (hb hby at_386) rfl rfl k) ?_
    refine own_by (B := T39.setTop (mkF m 390 #[.val (.long j0), .second, .val (.long j1), .second, .val (.int i2), .val (.int i3), .val (.ref b1), .val (.ref b18), .val (.int (0 : Int32)), .val (.ref b37), .val (.int (0 : Int32)), .val (.int (0 : Int32)), .val (.ref b38), .val (.ref b39), .unset] [(.ref b1), (.ref b38), (.ref b18)])) (fun t k => XS.aload X39.here hx rfl (hb hby at_388) rfl rfl k) ?_
    refine own_by (B := T39.setTop (mkF m 391 #[.val (.long j0), .second, .val (.long j1), .second, .val (.int i2), .val (.int i3), .val (.ref b1), .val (.ref b18), .val (.int (0 : Int32)), .val (.ref b37), .val (.int (0 : Int32)), .val (.int (0 : Int32)), .val (.ref b38), .val (.ref b39), .unset] [(.int (0 : Int32)), (.ref b1), (.ref b38), (.ref b18)])) (fun t k => XS.iconst X39.here hx rfl (hb hby at_390) k) ?_
    obtain ⟨xv42, hxv42⟩ := hfp 0 (by omega)
    obtain ⟨_, _, ⟨T43, L43, k43, n43⟩, -, X43, ⟨Lc43, hQ43, l43, y43, z43⟩, st43⟩ := Jvm.LawKit.callS X39 hx (y := (⟨"com/example/palaver/palaver/protocol/FlapLoginRoastPinLaw", "at", "([B[B[BI)Z"⟩ : MethodName)) hown (mvT hZ (hw _ (List.mem_of_getElem? (i := 7) rfl))) (mvT hZ (hw _ (List.mem_of_getElem? (i := 8) rfl))) (mvT hZ (hw _ (List.mem_of_getElem? (i := 9) rfl))) (mvT hZ (hw _ (List.mem_of_getElem? (i := 10) rfl))) (by decide) (backOf (W := 0) (rmA l Z a0 hw [] b18 b38 b1 0 18 fp (own_out fp 18) xv42 T39.heap n0 Zs V_b18 V_b38 V_b1 (by omega) (by omega) hxv42 (own_outv (by omega) hxv42)) hZ (hw _ (List.mem_of_getElem? (i := 10) rfl)) (hw _ (List.mem_of_getElem? (i := 9) rfl)) (by decide) (by decide)) (g := (mkF m 391 #[.val (.long j0), .second, .val (.long j1), .second, .val (.int i2), .val (.int i3), .val (.ref b1), .val (.ref b18), .val (.int (0 : Int32)), .val (.ref b37), .val (.int (0 : Int32)), .val (.int (0 : Int32)), .val (.ref b38), .val (.ref b39), .unset] [(.int (0 : Int32)), (.ref b1), (.ref b38), (.ref b18)])) rfl (by rw [hml]; rfl) (argsL := [(.ref b18), (.ref b38), (.ref b1), (.int (0 : Int32))]) (rest := []) (lenOf own_pd1 rfl) rfl (by show 2 * 0 + _ ≤ _; exact Nat.le_of_eq rfl) (hb hby at_391) (fun _ _ => ⟨rfl, rfl, (by decide : 5 + 0 ≤ _), (by decide : 160 + 0 ≤ _)⟩)
    dsimp only [Pt.U, Pt.locs, Pt.cells, Pt.slots] at X43 l43 y43 z43 st43 hQ43
    subst l43 y43 z43
    obtain ⟨rfl, Nq43, hp43⟩ := hQ43
    have Nf := Fr.app Nf Nq43
    obtain ⟨LhX43, X43, Nf⟩ := own_hide X43 Nf
    have ec43 : T43.heap = T39.heap := hp43
    refine own_by (B := T43.setTop (mkF m 394 #[.val (.long j0), .second, .val (.long j1), .second, .val (.int i2), .val (.int i3), .val (.ref b1), .val (.ref b18), .val (.int (0 : Int32)), .val (.ref b37), .val (.int (0 : Int32)), .val (.int (0 : Int32)), .val (.ref b38), .val (.ref b39), .unset] [(.int (1 : Int32))])) st43 ?_
    refine own_by (B := T43.setTop (mkF m 397 #[.val (.long j0), .second, .val (.long j1), .second, .val (.int i2), .val (.int i3), .val (.ref b1), .val (.ref b18), .val (.int (0 : Int32)), .val (.ref b37), .val (.int (0 : Int32)), .val (.int (0 : Int32)), .val (.ref b38), .val (.ref b39), .unset] [])) (fun t k => XS.ifNo X43.here hx rfl (hb hby at_394) rfl ((if0 _ _).trans (feq (by decide)).1) k) ?_
    refine own_by (B := T43.setTop (mkF m 399 #[.val (.long j0), .second, .val (.long j1), .second, .val (.int i2), .val (.int i3), .val (.ref b1), .val (.ref b18), .val (.int (0 : Int32)), .val (.ref b37), .val (.int (0 : Int32)), .val (.int (0 : Int32)), .val (.ref b38), .val (.ref b39), .unset] [(.ref b18)])) (fun t k => XS.aload X43.here hx rfl (hb hby at_397) rfl rfl k) ?_
    refine own_by (B := T43.setTop (mkF m 401 #[.val (.long j0), .second, .val (.long j1), .second, .val (.int i2), .val (.int i3), .val (.ref b1), .val (.ref b18), .val (.int (0 : Int32)), .val (.ref b37), .val (.int (0 : Int32)), .val (.int (0 : Int32)), .val (.ref b38), .val (.ref b39), .unset] [(.ref b38), (.ref b18)])) (fun t k => XS.aload X43.here hx rfl (hb hby at_399) rfl rfl k) ?_
    refine own_by (B := T43.setTop (mkF m 403 #[.val (.long j0), .second, .val (.long j1), .second, .val (.int i2), .val (.int i3), .val (.ref b1), .val (.ref b18), .val (.int (0 : Int32)), .val (.ref b37), .val (.int (0 : Int32)), .val (.int (0 : Int32)), .val (.ref b38), .val (.ref b39), .unset] [(.ref b1), (.ref b38), (.ref b18)])) (fun t k => XS.aload X43.here hx rfl (hb hby at_401) rfl rfl k) ?_
    refine own_by (B := T43.setTop (mkF m 404 #[.val (.long j0), .second, .val (.long j1), .second, .val (.int i2), .val (.int i3), .val (.ref b1), .val (.ref b18), .val (.int (0 : Int32)), .val (.ref b37), .val (.int (0 : Int32)), .val (.int (0 : Int32)), .val (.ref b38), .val (.ref b39), .unset] [(.int (1 : Int32)), (.ref b1), (.ref b38), (.ref b18)])) (fun t k => XS.iconst X43.here hx rfl (hb hby at_403) k) ?_
    obtain ⟨xv44, hxv44⟩ := hfp 1 (by omega)
    obtain ⟨_, _, ⟨T45, L45, k45, n45⟩, -, X45, ⟨Lc45, hQ45, l45, y45, z45⟩, st45⟩ := Jvm.LawKit.callS X43 hx (y := (⟨"com/example/palaver/palaver/protocol/FlapLoginRoastPinLaw", "at", "([B[B[BI)Z"⟩ : MethodName)) hown (mvT hZ (hw _ (List.mem_of_getElem? (i := 7) rfl))) (mvT hZ (hw _ (List.mem_of_getElem? (i := 8) rfl))) (mvT hZ (hw _ (List.mem_of_getElem? (i := 9) rfl))) (mvT hZ (hw _ (List.mem_of_getElem? (i := 10) rfl))) (by decide) (backOf (W := 0) (rmA l Z a0 hw [] b18 b38 b1 1 18 fp (own_out fp 18) xv44 T39.heap n0 Zs V_b18 V_b38 V_b1 (by omega) (by omega) hxv44 (own_outv (by omega) hxv44)) hZ (hw _ (List.mem_of_getElem? (i := 10) rfl)) (hw _ (List.mem_of_getElem? (i := 9) rfl)) (by decide) (by decide)) (g := (mkF m 404 #[.val (.long j0), .second, .val (.long j1), .second, .val (.int i2), .val (.int i3), .val (.ref b1), .val (.ref b18), .val (.int (0 : Int32)), .val (.ref b37), .val (.int (0 : Int32)), .val (.int (0 : Int32)), .val (.ref b38), .val (.ref b39), .unset] [(.int (1 : Int32)), (.ref b1), (.ref b38), (.ref b18)])) rfl (by rw [hml]; rfl) (argsL := [(.ref b18), (.ref b38), (.ref b1), (.int (1 : Int32))]) (rest := []) (lenOf own_pd1 rfl) rfl (by show 2 * 0 + _ ≤ _; exact Nat.le_of_eq rfl) (hb hby at_404) (fun _ _ => ⟨rfl, ec43, (by decide : 5 + 0 ≤ _), (by decide : 160 + 0 ≤ _)⟩)
    dsimp only [Pt.U, Pt.locs, Pt.cells, Pt.slots] at X45 l45 y45 z45 st45 hQ45
    subst l45 y45 z45
    obtain ⟨rfl, Nq45, hp45⟩ := hQ45
    have Nf := Fr.app Nf Nq45
    obtain ⟨LhX45, X45, Nf⟩ := own_hide X45 Nf
    have ec45 : T45.heap = T39.heap := hp45
    refine own_by (B := T45.setTop (mkF m 407 #[.val (.long j0), .second, .val (.long j1), .second, .val (.int i2), .val (.int i3), .val (.ref b1), .val (.ref b18), .val (.int (0 : Int32)), .val (.ref b37), .val (.int (0 : Int32)), .val (.int (0 : Int32)), .val (.ref b38), .val (.ref b39), .unset] [(.int (1 : Int32))])) st45 ?_
    refine own_by (B := T45.setTop (mkF m 410 #[.val (.long j0), .second, .val (.long j1), .second, .val (.int i2), .val (.int i3), .val (.ref b1), .val (.ref b18), .val (.int (0 : Int32)), .val (.ref b37), .val (.int (0 : Int32)), .val (.int (0 : Int32)), .val (.ref b38), .val (.ref b39), .unset] [])) (fun t k => XS.ifNo X45.here hx rfl (hb hby at_407) rfl ((if0 _ _).trans (feq (by decide)).1) k) ?_
    refine own_by (B := T45.setTop (mkF m 412 #[.val (.long j0), .second, .val (.long j1), .second, .val (.int i2), .val (.int i3), .val (.ref b1), .val (.ref b18), .val (.int (0 : Int32)), .val (.ref b37), .val (.int (0 : Int32)), .val (.int (0 : Int32)), .val (.ref b38), .val (.ref b39), .unset] [(.ref b18)])) (fun t k => XS.aload X45.here hx rfl (hb hby at_410) rfl rfl k) ?_
    refine own_by (B := T45.setTop (mkF m 414 #[.val (.long j0), .second, .val (.long j1), .second, .val (.int i2), .val (.int i3), .val (.ref b1), .val (.ref b18), .val (.int (0 : Int32)), .val (.ref b37), .val (.int (0 : Int32)), .val (.int (0 : Int32)), .val (.ref b38), .val (.ref b39), .unset] [(.ref b38), (.ref b18)])) (fun t k => XS.aload X45.here hx rfl (hb hby at_412) rfl rfl k) ?_
    refine own_by (B := T45.setTop (mkF m 416 #[.val (.long j0), .second, .val (.long j1), .second, .val (.int i2), .val (.int i3), .val (.ref b1), .val (.ref b18), .val (.int (0 : Int32)), .val (.ref b37), .val (.int (0 : Int32)), .val (.int (0 : Int32)), .val (.ref b38), .val (.ref b39), .unset] [(.ref b1), (.ref b38), (.ref b18)])) (fun t k => XS.aload X45.here hx rfl (hb hby at_414) rfl rfl k) ?_
    refine own_by (B := T45.setTop (mkF m 417 #[.val (.long j0), .second, .val (.long j1), .second, .val (.int i2), .val (.int i3), .val (.ref b1), .val (.ref b18), .val (.int (0 : Int32)), .val (.ref b37), .val (.int (0 : Int32)), .val (.int (0 : Int32)), .val (.ref b38), .val (.ref b39), .unset] [(.int (2 : Int32)), (.ref b1), (.ref b38), (.ref b18)])) (fun t k => XS.iconst X45.here hx rfl (hb hby at_416) k) ?_
    obtain ⟨xv46, hxv46⟩ := hfp 2 (by omega)
    obtain ⟨_, _, ⟨T47, L47, k47, n47⟩, -, X47, ⟨Lc47, hQ47, l47, y47, z47⟩, st47⟩ := Jvm.LawKit.callS X45 hx (y := (⟨"com/example/palaver/palaver/protocol/FlapLoginRoastPinLaw", "at", "([B[B[BI)Z"⟩ : MethodName)) hown (mvT hZ (hw _ (List.mem_of_getElem? (i := 7) rfl))) (mvT hZ (hw _ (List.mem_of_getElem? (i := 8) rfl))) (mvT hZ (hw _ (List.mem_of_getElem? (i := 9) rfl))) (mvT hZ (hw _ (List.mem_of_getElem? (i := 10) rfl))) (by decide) (backOf (W := 0) (rmA l Z a0 hw [] b18 b38 b1 2 18 fp (own_out fp 18) xv46 T39.heap n0 Zs V_b18 V_b38 V_b1 (by omega) (by omega) hxv46 (own_outv (by omega) hxv46)) hZ (hw _ (List.mem_of_getElem? (i := 10) rfl)) (hw _ (List.mem_of_getElem? (i := 9) rfl)) (by decide) (by decide)) (g := (mkF m 417 #[.val (.long j0), .second, .val (.long j1), .second, .val (.int i2), .val (.int i3), .val (.ref b1), .val (.ref b18), .val (.int (0 : Int32)), .val (.ref b37), .val (.int (0 : Int32)), .val (.int (0 : Int32)), .val (.ref b38), .val (.ref b39), .unset] [(.int (2 : Int32)), (.ref b1), (.ref b38), (.ref b18)])) rfl (by rw [hml]; rfl) (argsL := [(.ref b18), (.ref b38), (.ref b1), (.int (2 : Int32))]) (rest := []) (lenOf own_pd1 rfl) rfl (by show 2 * 0 + _ ≤ _; exact Nat.le_of_eq rfl) (hb hby at_417) (fun _ _ => ⟨rfl, ec45, (by decide : 5 + 0 ≤ _), (by decide : 160 + 0 ≤ _)⟩)
    dsimp only [Pt.U, Pt.locs, Pt.cells, Pt.slots] at X47 l47 y47 z47 st47 hQ47
    subst l47 y47 z47
    obtain ⟨rfl, Nq47, hp47⟩ := hQ47
    have Nf := Fr.app Nf Nq47
    obtain ⟨LhX47, X47, Nf⟩ := own_hide X47 Nf
    have ec47 : T47.heap = T39.heap := hp47
    refine own_by (B := T47.setTop (mkF m 420 #[.val (.long j0), .second, .val (.long j1), .second, .val (.int i2), .val (.int i3), .val (.ref b1), .val (.ref b18), .val (.int (0 : Int32)), .val (.ref b37), .val (.int (0 : Int32)), .val (.int (0 : Int32)), .val (.ref b38), .val (.ref b39), .unset] [(.int (1 : Int32))])) st47 ?_
    refine own_by (B := T47.setTop (mkF m 423 #[.val (.long j0), .second, .val (.long j1), .second, .val (.int i2), .val (.int i3), .val (.ref b1), .val (.ref b18), .val (.int (0 : Int32)), .val (.ref b37), .val (.int (0 : Int32)), .val (.int (0 : Int32)), .val (.ref b38), .val (.ref b39), .unset] [])) (fun t k => XS.ifNo X47.here hx rfl (hb hby at_420) rfl ((if0 _ _).trans (feq (by decide)).1) k) ?_
    refine own_by (B := T47.setTop (mkF m 425 #[.val (.long j0), .second, .val (.long j1), .second, .val (.int i2), .val (.int i3), .val (.ref b1), .val (.ref b18), .val (.int (0 : Int32)), .val (.ref b37), .val (.int (0 : Int32)), .val (.int (0 : Int32)), .val (.ref b38), .val (.ref b39), .unset] [(.ref b18)])) (fun t k => XS.aload X47.here hx rfl (hb hby at_423) rfl rfl k) ?_
    refine own_by (B := T47.setTop (mkF m 427 #[.val (.long j0), .second, .val (.long j1), .second, .val (.int i2), .val (.int i3), .val (.ref b1), .val (.ref b18), .val (.int (0 : Int32)), .val (.ref b37), .val (.int (0 : Int32)), .val (.int (0 : Int32)), .val (.ref b38), .val (.ref b39), .unset] [(.ref b38), (.ref b18)])) (fun t k => XS.aload X47.here hx rfl (hb hby at_425) rfl rfl k) ?_
    refine own_by (B := T47.setTop (mkF m 429 #[.val (.long j0), .second, .val (.long j1), .second, .val (.int i2), .val (.int i3), .val (.ref b1), .val (.ref b18), .val (.int (0 : Int32)), .val (.ref b37), .val (.int (0 : Int32)), .val (.int (0 : Int32)), .val (.ref b38), .val (.ref b39), .unset] [(.ref b1), (.ref b38), (.ref b18)])) (fun t k => XS.aload X47.here hx rfl (hb hby at_427) rfl rfl k) ?_
    refine own_by (B := T47.setTop (mkF m 430 #[.val (.long j0), .second, .val (.long j1), .second, .val (.int i2), .val (.int i3), .val (.ref b1), .val (.ref b18), .val (.int (0 : Int32)), .val (.ref b37), .val (.int (0 : Int32)), .val (.int (0 : Int32)), .val (.ref b38), .val (.ref b39), .unset] [(.int (3 : Int32)), (.ref b1), (.ref b38), (.ref b18)])) (fun t k => XS.iconst X47.here hx rfl (hb hby at_429) k) ?_
    obtain ⟨xv48, hxv48⟩ := hfp 3 (by omega)
    obtain ⟨_, _, ⟨T49, L49, k49, n49⟩, -, X49, ⟨Lc49, hQ49, l49, y49, z49⟩, st49⟩ := Jvm.LawKit.callS X47 hx (y := (⟨"com/example/palaver/palaver/protocol/FlapLoginRoastPinLaw", "at", "([B[B[BI)Z"⟩ : MethodName)) hown (mvT hZ (hw _ (List.mem_of_getElem? (i := 7) rfl))) (mvT hZ (hw _ (List.mem_of_getElem? (i := 8) rfl))) (mvT hZ (hw _ (List.mem_of_getElem? (i := 9) rfl))) (mvT hZ (hw _ (List.mem_of_getElem? (i := 10) rfl))) (by decide) (backOf (W := 0) (rmA l Z a0 hw [] b18 b38 b1 3 18 fp (own_out fp 18) xv48 T39.heap n0 Zs V_b18 V_b38 V_b1 (by omega) (by omega) hxv48 (own_outv (by omega) hxv48)) hZ (hw _ (List.mem_of_getElem? (i := 10) rfl)) (hw _ (List.mem_of_getElem? (i := 9) rfl)) (by decide) (by decide)) (g := (mkF m 430 #[.val (.long j0), .second, .val (.long j1), .second, .val (.int i2), .val (.int i3), .val (.ref b1), .val (.ref b18), .val (.int (0 : Int32)), .val (.ref b37), .val (.int (0 : Int32)), .val (.int (0 : Int32)), .val (.ref b38), .val (.ref b39), .unset] [(.int (3 : Int32)), (.ref b1), (.ref b38), (.ref b18)])) rfl (by rw [hml]; rfl) (argsL := [(.ref b18), (.ref b38), (.ref b1), (.int (3 : Int32))]) (rest := []) (lenOf own_pd1 rfl) rfl (by show 2 * 0 + _ ≤ _; exact Nat.le_of_eq rfl) (hb hby at_430) (fun _ _ => ⟨rfl, ec47, (by decide : 5 + 0 ≤ _), (by decide : 160 + 0 ≤ _)⟩)
    dsimp only [Pt.U, Pt.locs, Pt.cells, Pt.slots] at X49 l49 y49 z49 st49 hQ49
    subst l49 y49 z49
    obtain ⟨rfl, Nq49, hp49⟩ := hQ49
    have Nf := Fr.app Nf Nq49
    obtain ⟨LhX49, X49, Nf⟩ := own_hide X49 Nf
    have ec49 : T49.heap = T39.heap := hp49
    refine own_by (B := T49.setTop (mkF m 433 #[.val (.long j0), .second, .val (.long j1), .second, .val (.int i2), .val (.int i3), .val (.ref b1), .val (.ref b18), .val (.int (0 : Int32)), .val (.ref b37), .val (.int (0 : Int32)), .val (.int (0 : Int32)), .val (.ref b38), .val (.ref b39), .unset] [(.int (1 : Int32))])) st49 ?_
    refine own_by (B := T49.setTop (mkF m 436 #[.val (.long j0), .second, .val (.long j1), .second, .val (.int i2), .val (.int i3), .val (.ref b1), .val (.ref b18), .val (.int (0 : Int32)), .val (.ref b37), .val (.int (0 : Int32)), .val (.int (0 : Int32)), .val (.ref b38), .val (.ref b39), .unset] [])) (fun t k => XS.ifNo X49.here hx rfl (hb hby at_433) rfl ((if0 _ _).trans (feq (by decide)).1) k) ?_
    refine own_by (B := T49.setTop (mkF m 438 #[.val (.long j0), .second, .val (.long j1), .second, .val (.int i2), .val (.int i3), .val (.ref b1), .val (.ref b18), .val (.int (0 : Int32)), .val (.ref b37), .val (.int (0 : Int32)), .val (.int (0 : Int32)), .val (.ref b38), .val (.ref b39), .unset] [(.ref b18)])) (fun t k => XS.aload X49.here hx rfl (hb hby at_436) rfl rfl k) ?_
    refine own_by (B := T49.setTop (mkF m 440 #[.val (.long j0), .second, .val (.long j1), .second, .val (.int i2), .val (.int i3), .val (.ref b1), .val (.ref b18), .val (.int (0 : Int32)), .val (.ref b37), .val (.int (0 : Int32)), .val (.int (0 : Int32)), .val (.ref b38), .val (.ref b39), .unset] [(.ref b38), (.ref b18)])) (fun t k => XS.aload X49.here hx rfl (hb hby at_438) rfl rfl k) ?_
    refine own_by (B := T49.setTop (mkF m 442 #[.val (.long j0), .second, .val (.long j1), .second, .val (.int i2), .val (.int i3), .val (.ref b1), .val (.ref b18), .val (.int (0 : Int32)), .val (.ref b37), .val (.int (0 : Int32)), .val (.int (0 : Int32)), .val (.ref b38), .val (.ref b39), .unset] [(.ref b1), (.ref b38), (.ref b18)])) (fun t k => XS.aload X49.here hx rfl (hb hby at_440) rfl rfl k) ?_
    refine own_by (B := T49.setTop (mkF m 443 #[.val (.long j0), .second, .val (.long j1), .second, .val (.int i2), .val (.int i3), .val (.ref b1), .val (.ref b18), .val (.int (0 : Int32)), .val (.ref b37), .val (.int (0 : Int32)), .val (.int (0 : Int32)), .val (.ref b38), .val (.ref b39), .unset] [(.int (4 : Int32)), (.ref b1), (.ref b38), (.ref b18)])) (fun t k => XS.iconst X49.here hx rfl (hb hby at_442) k) ?_
    obtain ⟨xv50, hxv50⟩ := hfp 4 (by omega)
    obtain ⟨_, _, ⟨T51, L51, k51, n51⟩, -, X51, ⟨Lc51, hQ51, l51, y51, z51⟩, st51⟩ := Jvm.LawKit.callS X49 hx (y := (⟨"com/example/palaver/palaver/protocol/FlapLoginRoastPinLaw", "at", "([B[B[BI)Z"⟩ : MethodName)) hown (mvT hZ (hw _ (List.mem_of_getElem? (i := 7) rfl))) (mvT hZ (hw _ (List.mem_of_getElem? (i := 8) rfl))) (mvT hZ (hw _ (List.mem_of_getElem? (i := 9) rfl))) (mvT hZ (hw _ (List.mem_of_getElem? (i := 10) rfl))) (by decide) (backOf (W := 0) (rmA l Z a0 hw [] b18 b38 b1 4 18 fp (own_out fp 18) xv50 T39.heap n0 Zs V_b18 V_b38 V_b1 (by omega) (by omega) hxv50 (own_outv (by omega) hxv50)) hZ (hw _ (List.mem_of_getElem? (i := 10) rfl)) (hw _ (List.mem_of_getElem? (i := 9) rfl)) (by decide) (by decide)) (g := (mkF m 443 #[.val (.long j0), .second, .val (.long j1), .second, .val (.int i2), .val (.int i3), .val (.ref b1), .val (.ref b18), .val (.int (0 : Int32)), .val (.ref b37), .val (.int (0 : Int32)), .val (.int (0 : Int32)), .val (.ref b38), .val (.ref b39), .unset] [(.int (4 : Int32)), (.ref b1), (.ref b38), (.ref b18)])) rfl (by rw [hml]; rfl) (argsL := [(.ref b18), (.ref b38), (.ref b1), (.int (4 : Int32))]) (rest := []) (lenOf own_pd1 rfl) rfl (by show 2 * 0 + _ ≤ _; exact Nat.le_of_eq rfl) (hb hby at_443) (fun _ _ => ⟨rfl, ec49, (by decide : 5 + 0 ≤ _), (by decide : 160 + 0 ≤ _)⟩)
    dsimp only [Pt.U, Pt.locs, Pt.cells, Pt.slots] at X51 l51 y51 z51 st51 hQ51
    subst l51 y51 z51
    obtain ⟨rfl, Nq51, hp51⟩ := hQ51
    have Nf := Fr.app Nf Nq51
    obtain ⟨LhX51, X51, Nf⟩ := own_hide X51 Nf
    have ec51 : T51.heap = T39.heap := hp51
    refine own_by (B := T51.setTop (mkF m 446 #[.val (.long j0), .second, .val (.long j1), .second, .val (.int i2), .val (.int i3), .val (.ref b1), .val (.ref b18), .val (.int (0 : Int32)), .val (.ref b37), .val (.int (0 : Int32)), .val (.int (0 : Int32)), .val (.ref b38), .val (.ref b39), .unset] [(.int (1 : Int32))])) st51 ?_
    refine own_by (B := T51.setTop (mkF m 449 #[.val (.long j0), .second, .val (.long j1), .second, .val (.int i2), .val (.int i3), .val (.ref b1), .val (.ref b18), .val (.int (0 : Int32)), .val (.ref b37), .val (.int (0 : Int32)), .val (.int (0 : Int32)), .val (.ref b38), .val (.ref b39), .unset] [])) (fun t k => XS.ifNo X51.here hx rfl (hb hby at_446) rfl ((if0 _ _).trans (feq (by decide)).1) k) ?_
    refine own_by (B := T51.setTop (mkF m 451 #[.val (.long j0), .second, .val (.long j1), .second, .val (.int i2), .val (.int i3), .val (.ref b1), .val (.ref b18), .val (.int (0 : Int32)), .val (.ref b37), .val (.int (0 : Int32)), .val (.int (0 : Int32)), .val (.ref b38), .val (.ref b39), .unset] [(.ref b18)])) (fun t k => XS.aload X51.here hx rfl (hb hby at_449) rfl rfl k) ?_
    refine own_by (B := T51.setTop (mkF m 453 #[.val (.long j0), .second, .val (.long j1), .second, .val (.int i2), .val (.int i3), .val (.ref b1), .val (.ref b18), .val (.int (0 : Int32)), .val (.ref b37), .val (.int (0 : Int32)), .val (.int (0 : Int32)), .val (.ref b38), .val (.ref b39), .unset] [(.ref b38), (.ref b18)])) (fun t k => XS.aload X51.here hx rfl (hb hby at_451) rfl rfl k) ?_
    refine own_by (B := T51.setTop (mkF m 455 #[.val (.long j0), .second, .val (.long j1), .second, .val (.int i2), .val (.int i3), .val (.ref b1), .val (.ref b18), .val (.int (0 : Int32)), .val (.ref b37), .val (.int (0 : Int32)), .val (.int (0 : Int32)), .val (.ref b38), .val (.ref b39), .unset] [(.ref b1), (.ref b38), (.ref b18)])) (fun t k => XS.aload X51.here hx rfl (hb hby at_453) rfl rfl k) ?_
    refine own_by (B := T51.setTop (mkF m 456 #[.val (.long j0), .second, .val (.long j1), .second, .val (.int i2), .val (.int i3), .val (.ref b1), .val (.ref b18), .val (.int (0 : Int32)), .val (.ref b37), .val (.int (0 : Int32)), .val (.int (0 : Int32)), .val (.ref b38), .val (.ref b39), .unset] [(.int (5 : Int32)), (.ref b1), (.ref b38), (.ref b18)])) (fun t k => XS.iconst X51.here hx rfl (hb hby at_455) k) ?_
    obtain ⟨xv52, hxv52⟩ := hfp 5 (by omega)
    obtain ⟨_, _, ⟨T53, L53, k53, n53⟩, -, X53, ⟨Lc53, hQ53, l53, y53, z53⟩, st53⟩ := Jvm.LawKit.callS X51 hx (y := (⟨"com/example/palaver/palaver/protocol/FlapLoginRoastPinLaw", "at", "([B[B[BI)Z"⟩ : MethodName)) hown (mvT hZ (hw _ (List.mem_of_getElem? (i := 7) rfl))) (mvT hZ (hw _ (List.mem_of_getElem? (i := 8) rfl))) (mvT hZ (hw _ (List.mem_of_getElem? (i := 9) rfl))) (mvT hZ (hw _ (List.mem_of_getElem? (i := 10) rfl))) (by decide) (backOf (W := 0) (rmA l Z a0 hw [] b18 b38 b1 5 18 fp (own_out fp 18) xv52 T39.heap n0 Zs V_b18 V_b38 V_b1 (by omega) (by omega) hxv52 (own_outv (by omega) hxv52)) hZ (hw _ (List.mem_of_getElem? (i := 10) rfl)) (hw _ (List.mem_of_getElem? (i := 9) rfl)) (by decide) (by decide)) (g := (mkF m 456 #[.val (.long j0), .second, .val (.long j1), .second, .val (.int i2), .val (.int i3), .val (.ref b1), .val (.ref b18), .val (.int (0 : Int32)), .val (.ref b37), .val (.int (0 : Int32)), .val (.int (0 : Int32)), .val (.ref b38), .val (.ref b39), .unset] [(.int (5 : Int32)), (.ref b1), (.ref b38), (.ref b18)])) rfl (by rw [hml]; rfl) (argsL := [(.ref b18), (.ref b38), (.ref b1), (.int (5 : Int32))]) (rest := []) (lenOf own_pd1 rfl) rfl (by show 2 * 0 + _ ≤ _; exact Nat.le_of_eq rfl) (hb hby at_456) (fun _ _ => ⟨rfl, ec51, (by decide : 5 + 0 ≤ _), (by decide : 160 + 0 ≤ _)⟩)
    dsimp only [Pt.U, Pt.locs, Pt.cells, Pt.slots] at X53 l53 y53 z53 st53 hQ53
    subst l53 y53 z53
    obtain ⟨rfl, Nq53, hp53⟩ := hQ53
    have Nf := Fr.app Nf Nq53
    obtain ⟨LhX53, X53, Nf⟩ := own_hide X53 Nf
    have ec53 : T53.heap = T39.heap := hp53
    refine own_by (B := T53.setTop (mkF m 459 #[.val (.long j0), .second, .val (.long j1), .second, .val (.int i2), .val (.int i3), .val (.ref b1), .val (.ref b18), .val (.int (0 : Int32)), .val (.ref b37), .val (.int (0 : Int32)), .val (.int (0 : Int32)), .val (.ref b38), .val (.ref b39), .unset] [(.int (1 : Int32))])) st53 ?_
    refine own_by (B := T53.setTop (mkF m 462 #[.val (.long j0), .second, .val (.long j1), .second, .val (.int i2), .val (.int i3), .val (.ref b1), .val (.ref b18), .val (.int (0 : Int32)), .val (.ref b37), .val (.int (0 : Int32)), .val (.int (0 : Int32)), .val (.ref b38), .val (.ref b39), .unset] [])) (fun t k => XS.ifNo X53.here hx rfl (hb hby at_459) rfl ((if0 _ _).trans (feq (by decide)).1) k) ?_
    refine own_by (B := T53.setTop (mkF m 464 #[.val (.long j0), .second, .val (.long j1), .second, .val (.int i2), .val (.int i3), .val (.ref b1), .val (.ref b18), .val (.int (0 : Int32)), .val (.ref b37), .val (.int (0 : Int32)), .val (.int (0 : Int32)), .val (.ref b38), .val (.ref b39), .unset] [(.ref b18)])) (fun t k => XS.aload X53.here hx rfl (hb hby at_462) rfl rfl k) ?_
    refine own_by (B := T53.setTop (mkF m 466 #[.val (.long j0), .second, .val (.long j1), .second, .val (.int i2), .val (.int i3), .val (.ref b1), .val (.ref b18), .val (.int (0 : Int32)), .val (.ref b37), .val (.int (0 : Int32)), .val (.int (0 : Int32)), .val (.ref b38), .val (.ref b39), .unset] [(.ref b38), (.ref b18)])) (fun t k => XS.aload X53.here hx rfl (hb hby at_464) rfl rfl k) ?_
    refine own_by (B := T53.setTop (mkF m 468 #[.val (.long j0), .second, .val (.long j1), .second, .val (.int i2), .val (.int i3), .val (.ref b1), .val (.ref b18), .val (.int (0 : Int32)), .val (.ref b37), .val (.int (0 : Int32)), .val (.int (0 : Int32)), .val (.ref b38), .val (.ref b39), .unset] [(.ref b1), (.ref b38), (.ref b18)])) (fun t k => XS.aload X53.here hx rfl (hb hby at_466) rfl rfl k) ?_
    refine own_by (B := T53.setTop (mkF m 470 #[.val (.long j0), .second, .val (.long j1), .second, .val (.int i2), .val (.int i3), .val (.ref b1), .val (.ref b18), .val (.int (0 : Int32)), .val (.ref b37), .val (.int (0 : Int32)), .val (.int (0 : Int32)), .val (.ref b38), .val (.ref b39), .unset] [(.int (6 : Int32)), (.ref b1), (.ref b38), (.ref b18)])) (fun t k => XS.bipush X53.here hx rfl (hb hby at_468) k) ?_
    obtain ⟨xv54, hxv54⟩ := hfp 6 (by omega)
    obtain ⟨_, _, ⟨T55, L55, k55, n55⟩, -, X55, ⟨Lc55, hQ55, l55, y55, z55⟩, st55⟩ := Jvm.LawKit.callS X53 hx (y := (⟨"com/example/palaver/palaver/protocol/FlapLoginRoastPinLaw", "at", "([B[B[BI)Z"⟩ : MethodName)) hown (mvT hZ (hw _ (List.mem_of_getElem? (i := 7) rfl))) (mvT hZ (hw _ (List.mem_of_getElem? (i := 8) rfl))) (mvT hZ (hw _ (List.mem_of_getElem? (i := 9) rfl))) (mvT hZ (hw _ (List.mem_of_getElem? (i := 10) rfl))) (by decide) (backOf (W := 0) (rmA l Z a0 hw [] b18 b38 b1 6 18 fp (own_out fp 18) xv54 T39.heap n0 Zs V_b18 V_b38 V_b1 (by omega) (by omega) hxv54 (own_outv (by omega) hxv54)) hZ (hw _ (List.mem_of_getElem? (i := 10) rfl)) (hw _ (List.mem_of_getElem? (i := 9) rfl)) (by decide) (by decide)) (g := (mkF m 470 #[.val (.long j0), .second, .val (.long j1), .second, .val (.int i2), .val (.int i3), .val (.ref b1), .val (.ref b18), .val (.int (0 : Int32)), .val (.ref b37), .val (.int (0 : Int32)), .val (.int (0 : Int32)), .val (.ref b38), .val (.ref b39), .unset] [(.int (6 : Int32)), (.ref b1), (.ref b38), (.ref b18)])) rfl (by rw [hml]; rfl) (argsL := [(.ref b18), (.ref b38), (.ref b1), (.int (6 : Int32))]) (rest := []) (lenOf own_pd1 rfl) rfl (by show 2 * 0 + _ ≤ _; exact Nat.le_of_eq rfl) (hb hby at_470) (fun _ _ => ⟨rfl, ec53, (by decide : 5 + 0 ≤ _), (by decide : 160 + 0 ≤ _)⟩)
    dsimp only [Pt.U, Pt.locs, Pt.cells, Pt.slots] at X55 l55 y55 z55 st55 hQ55
    subst l55 y55 z55
    obtain ⟨rfl, Nq55, hp55⟩ := hQ55
    have Nf := Fr.app Nf Nq55
    obtain ⟨LhX55, X55, Nf⟩ := own_hide X55 Nf
    have ec55 : T55.heap = T39.heap := hp55
    refine own_by (B := T55.setTop (mkF m 473 #[.val (.long j0), .second, .val (.long j1), .second, .val (.int i2), .val (.int i3), .val (.ref b1), .val (.ref b18), .val (.int (0 : Int32)), .val (.ref b37), .val (.int (0 : Int32)), .val (.int (0 : Int32)), .val (.ref b38), .val (.ref b39), .unset] [(.int (1 : Int32))])) st55 ?_
    refine own_by (B := T55.setTop (mkF m 476 #[.val (.long j0), .second, .val (.long j1), .second, .val (.int i2), .val (.int i3), .val (.ref b1), .val (.ref b18), .val (.int (0 : Int32)), .val (.ref b37), .val (.int (0 : Int32)), .val (.int (0 : Int32)), .val (.ref b38), .val (.ref b39), .unset] [])) (fun t k => XS.ifNo X55.here hx rfl (hb hby at_473) rfl ((if0 _ _).trans (feq (by decide)).1) k) ?_
    refine own_by (B := T55.setTop (mkF m 478 #[.val (.long j0), .second, .val (.long j1), .second, .val (.int i2), .val (.int i3), .val (.ref b1), .val (.ref b18), .val (.int (0 : Int32)), .val (.ref b37), .val (.int (0 : Int32)), .val (.int (0 : Int32)), .val (.ref b38), .val (.ref b39), .unset] [(.ref b18)])) (fun t k => XS.aload X55.here hx rfl (hb hby at_476) rfl rfl k) ?_
    refine own_by (B := T55.setTop (mkF m 480 #[.val (.long j0), .second, .val (.long j1), .second, .val (.int i2), .val (.int i3), .val (.ref b1), .val (.ref b18), .val (.int (0 : Int32)), .val (.ref b37), .val (.int (0 : Int32)), .val (.int (0 : Int32)), .val (.ref b38), .val (.ref b39), .unset] [(.ref b38), (.ref b18)])) (fun t k => XS.aload X55.here hx rfl (hb hby at_478) rfl rfl k) ?_
    refine own_by (B := T55.setTop (mkF m 482 #[.val (.long j0), .second, .val (.long j1), .second, .val (.int i2), .val (.int i3), .val (.ref b1), .val (.ref b18), .val (.int (0 : Int32)), .val (.ref b37), .val (.int (0 : Int32)), .val (.int (0 : Int32)), .val (.ref b38), .val (.ref b39), .unset] [(.ref b1), (.ref b38), (.ref b18)])) (fun t k => XS.aload X55.here hx rfl (hb hby at_480) rfl rfl k) ?_
    refine own_by (B := T55.setTop (mkF m 484 #[.val (.long j0), .second, .val (.long j1), .second, .val (.int i2), .val (.int i3), .val (.ref b1), .val (.ref b18), .val (.int (0 : Int32)), .val (.ref b37), .val (.int (0 : Int32)), .val (.int (0 : Int32)), .val (.ref b38), .val (.ref b39), .unset] [(.int (7 : Int32)), (.ref b1), (.ref b38), (.ref b18)])) (fun t k => XS.bipush X55.here hx rfl (hb hby at_482) k) ?_
    obtain ⟨xv56, hxv56⟩ := hfp 7 (by omega)
    obtain ⟨_, _, ⟨T57, L57, k57, n57⟩, -, X57, ⟨Lc57, hQ57, l57, y57, z57⟩, st57⟩ := Jvm.LawKit.callS X55 hx (y := (⟨"com/example/palaver/palaver/protocol/FlapLoginRoastPinLaw", "at", "([B[B[BI)Z"⟩ : MethodName)) hown (mvT hZ (hw _ (List.mem_of_getElem? (i := 7) rfl))) (mvT hZ (hw _ (List.mem_of_getElem? (i := 8) rfl))) (mvT hZ (hw _ (List.mem_of_getElem? (i := 9) rfl))) (mvT hZ (hw _ (List.mem_of_getElem? (i := 10) rfl))) (by decide) (backOf (W := 0) (rmA l Z a0 hw [] b18 b38 b1 7 18 fp (own_out fp 18) xv56 T39.heap n0 Zs V_b18 V_b38 V_b1 (by omega) (by omega) hxv56 (own_outv (by omega) hxv56)) hZ (hw _ (List.mem_of_getElem? (i := 10) rfl)) (hw _ (List.mem_of_getElem? (i := 9) rfl)) (by decide) (by decide)) (g := (mkF m 484 #[.val (.long j0), .second, .val (.long j1), .second, .val (.int i2), .val (.int i3), .val (.ref b1), .val (.ref b18), .val (.int (0 : Int32)), .val (.ref b37), .val (.int (0 : Int32)), .val (.int (0 : Int32)), .val (.ref b38), .val (.ref b39), .unset] [(.int (7 : Int32)), (.ref b1), (.ref b38), (.ref b18)])) rfl (by rw [hml]; rfl) (argsL := [(.ref b18), (.ref b38), (.ref b1), (.int (7 : Int32))]) (rest := []) (lenOf own_pd1 rfl) rfl (by show 2 * 0 + _ ≤ _; exact Nat.le_of_eq rfl) (hb hby at_484) (fun _ _ => ⟨rfl, ec55, (by decide : 5 + 0 ≤ _), (by decide : 160 + 0 ≤ _)⟩)
    dsimp only [Pt.U, Pt.locs, Pt.cells, Pt.slots] at X57 l57 y57 z57 st57 hQ57
    subst l57 y57 z57
    obtain ⟨rfl, Nq57, hp57⟩ := hQ57
    have Nf := Fr.app Nf Nq57
    obtain ⟨LhX57, X57, Nf⟩ := own_hide X57 Nf
    have ec57 : T57.heap = T39.heap := hp57
    refine own_by (B := T57.setTop (mkF m 487 #[.val (.long j0), .second, .val (.long j1), .second, .val (.int i2), .val (.int i3), .val (.ref b1), .val (.ref b18), .val (.int (0 : Int32)), .val (.ref b37), .val (.int (0 : Int32)), .val (.int (0 : Int32)), .val (.ref b38), .val (.ref b39), .unset] [(.int (1 : Int32))])) st57 ?_
    refine own_by (B := T57.setTop (mkF m 490 #[.val (.long j0), .second, .val (.long j1), .second, .val (.int i2), .val (.int i3), .val (.ref b1), .val (.ref b18), .val (.int (0 : Int32)), .val (.ref b37), .val (.int (0 : Int32)), .val (.int (0 : Int32)), .val (.ref b38), .val (.ref b39), .unset] [])) (fun t k => XS.ifNo X57.here hx rfl (hb hby at_487) rfl ((if0 _ _).trans (feq (by decide)).1) k) ?_
    refine own_by (B := T57.setTop (mkF m 492 #[.val (.long j0), .second, .val (.long j1), .second, .val (.int i2), .val (.int i3), .val (.ref b1), .val (.ref b18), .val (.int (0 : Int32)), .val (.ref b37), .val (.int (0 : Int32)), .val (.int (0 : Int32)), .val (.ref b38), .val (.ref b39), .unset] [(.ref b18)])) (fun t k => XS.aload X57.here hx rfl (hb hby at_490) rfl rfl k) ?_
    refine own_by (B := T57.setTop (mkF m 494 #[.val (.long j0), .second, .val (.long j1), .second, .val (.int i2), .val (.int i3), .val (.ref b1), .val (.ref b18), .val (.int (0 : Int32)), .val (.ref b37), .val (.int (0 : Int32)), .val (.int (0 : Int32)), .val (.ref b38), .val (.ref b39), .unset] [(.ref b38), (.ref b18)])) (fun t k => XS.aload X57.here hx rfl (hb hby at_492) rfl rfl k) ?_
    refine own_by (B := T57.setTop (mkF m 496 #[.val (.long j0), .second, .val (.long j1), .second, .val (.int i2), .val (.int i3), .val (.ref b1), .val (.ref b18), .val (.int (0 : Int32)), .val (.ref b37), .val (.int (0 : Int32)), .val (.int (0 : Int32)), .val (.ref b38), .val (.ref b39), .unset] [(.ref b1), (.ref b38), (.ref b18)])) (fun t k => XS.aload X57.here hx rfl (hb hby at_494) rfl rfl k) ?_
    refine own_by (B := T57.setTop (mkF m 498 #[.val (.long j0), .second, .val (.long j1), .second, .val (.int i2), .val (.int i3), .val (.ref b1), .val (.ref b18), .val (.int (0 : Int32)), .val (.ref b37), .val (.int (0 : Int32)), .val (.int (0 : Int32)), .val (.ref b38), .val (.ref b39), .unset] [(.int (8 : Int32)), (.ref b1), (.ref b38), (.ref b18)])) (fun t k => XS.bipush X57.here hx rfl (hb hby at_496) k) ?_
    obtain ⟨xv58, hxv58⟩ := hfp 8 (by omega)
    obtain ⟨_, _, ⟨T59, L59, k59, n59⟩, -, X59, ⟨Lc59, hQ59, l59, y59, z59⟩, st59⟩ := Jvm.LawKit.callS X57 hx (y := (⟨"com/example/palaver/palaver/protocol/FlapLoginRoastPinLaw", "at", "([B[B[BI)Z"⟩ : MethodName)) hown (mvT hZ (hw _ (List.mem_of_getElem? (i := 7) rfl))) (mvT hZ (hw _ (List.mem_of_getElem? (i := 8) rfl))) (mvT hZ (hw _ (List.mem_of_getElem? (i := 9) rfl))) (mvT hZ (hw _ (List.mem_of_getElem? (i := 10) rfl))) (by decide) (backOf (W := 0) (rmA l Z a0 hw [] b18 b38 b1 8 18 fp (own_out fp 18) xv58 T39.heap n0 Zs V_b18 V_b38 V_b1 (by omega) (by omega) hxv58 (own_outv (by omega) hxv58)) hZ (hw _ (List.mem_of_getElem? (i := 10) rfl)) (hw _ (List.mem_of_getElem? (i := 9) rfl)) (by decide) (by decide)) (g := (mkF m 498 #[.val (.long j0), .second, .val (.long j1), .second, .val (.int i2), .val (.int i3), .val (.ref b1), .val (.ref b18), .val (.int (0 : Int32)), .val (.ref b37), .val (.int (0 : Int32)), .val (.int (0 : Int32)), .val (.ref b38), .val (.ref b39), .unset] [(.int (8 : Int32)), (.ref b1), (.ref b38), (.ref b18)])) rfl (by rw [hml]; rfl) (argsL := [(.ref b18), (.ref b38), (.ref b1), (.int (8 : Int32))]) (rest := []) (lenOf own_pd1 rfl) rfl (by show 2 * 0 + _ ≤ _; exact Nat.le_of_eq rfl) (hb hby at_498) (fun _ _ => ⟨rfl, ec57, (by decide : 5 + 0 ≤ _), (by decide : 160 + 0 ≤ _)⟩)
    dsimp only [Pt.U, Pt.locs, Pt.cells, Pt.slots] at X59 l59 y59 z59 st59 hQ59
    subst l59 y59 z59
    obtain ⟨rfl, Nq59, hp59⟩ := hQ59
    have Nf := Fr.app Nf Nq59
    obtain ⟨LhX59, X59, Nf⟩ := own_hide X59 Nf
    have ec59 : T59.heap = T39.heap := hp59
    refine own_by (B := T59.setTop (mkF m 501 #[.val (.long j0), .second, .val (.long j1), .second, .val (.int i2), .val (.int i3), .val (.ref b1), .val (.ref b18), .val (.int (0 : Int32)), .val (.ref b37), .val (.int (0 : Int32)), .val (.int (0 : Int32)), .val (.ref b38), .val (.ref b39), .unset] [(.int (1 : Int32))])) st59 ?_
    refine own_by (B := T59.setTop (mkF m 504 #[.val (.long j0), .second, .val (.long j1), .second, .val (.int i2), .val (.int i3), .val (.ref b1), .val (.ref b18), .val (.int (0 : Int32)), .val (.ref b37), .val (.int (0 : Int32)), .val (.int (0 : Int32)), .val (.ref b38), .val (.ref b39), .unset] [])) (fun t k => XS.ifNo X59.here hx rfl (hb hby at_501) rfl ((if0 _ _).trans (feq (by decide)).1) k) ?_
    refine own_by (B := T59.setTop (mkF m 506 #[.val (.long j0), .second, .val (.long j1), .second, .val (.int i2), .val (.int i3), .val (.ref b1), .val (.ref b18), .val (.int (0 : Int32)), .val (.ref b37), .val (.int (0 : Int32)), .val (.int (0 : Int32)), .val (.ref b38), .val (.ref b39), .unset] [(.ref b18)])) (fun t k => XS.aload X59.here hx rfl (hb hby at_504) rfl rfl k) ?_
    refine own_by (B := T59.setTop (mkF m 508 #[.val (.long j0), .second, .val (.long j1), .second, .val (.int i2), .val (.int i3), .val (.ref b1), .val (.ref b18), .val (.int (0 : Int32)), .val (.ref b37), .val (.int (0 : Int32)), .val (.int (0 : Int32)), .val (.ref b38), .val (.ref b39), .unset] [(.ref b38), (.ref b18)])) (fun t k => XS.aload X59.here hx rfl (hb hby at_506) rfl rfl k) ?_
    refine own_by (B := T59.setTop (mkF m 510 #[.val (.long j0), .second, .val (.long j1), .second, .val (.int i2), .val (.int i3), .val (.ref b1), .val (.ref b18), .val (.int (0 : Int32)), .val (.ref b37), .val (.int (0 : Int32)), .val (.int (0 : Int32)), .val (.ref b38), .val (.ref b39), .unset] [(.ref b1), (.ref b38), (.ref b18)])) (fun t k => XS.aload X59.here hx rfl (hb hby at_508) rfl rfl k) ?_
    refine own_by (B := T59.setTop (mkF m 512 #[.val (.long j0), .second, .val (.long j1), .second, .val (.int i2), .val (.int i3), .val (.ref b1), .val (.ref b18), .val (.int (0 : Int32)), .val (.ref b37), .val (.int (0 : Int32)), .val (.int (0 : Int32)), .val (.ref b38), .val (.ref b39), .unset] [(.int (9 : Int32)), (.ref b1), (.ref b38), (.ref b18)])) (fun t k => XS.bipush X59.here hx rfl (hb hby at_510) k) ?_
    obtain ⟨xv60, hxv60⟩ := hfp 9 (by omega)
    obtain ⟨_, _, ⟨T61, L61, k61, n61⟩, -, X61, ⟨Lc61, hQ61, l61, y61, z61⟩, st61⟩ := Jvm.LawKit.callS X59 hx (y := (⟨"com/example/palaver/palaver/protocol/FlapLoginRoastPinLaw", "at", "([B[B[BI)Z"⟩ : MethodName)) hown (mvT hZ (hw _ (List.mem_of_getElem? (i := 7) rfl))) (mvT hZ (hw _ (List.mem_of_getElem? (i := 8) rfl))) (mvT hZ (hw _ (List.mem_of_getElem? (i := 9) rfl))) (mvT hZ (hw _ (List.mem_of_getElem? (i := 10) rfl))) (by decide) (backOf (W := 0) (rmA l Z a0 hw [] b18 b38 b1 9 18 fp (own_out fp 18) xv60 T39.heap n0 Zs V_b18 V_b38 V_b1 (by omega) (by omega) hxv60 (own_outv (by omega) hxv60)) hZ (hw _ (List.mem_of_getElem? (i := 10) rfl)) (hw _ (List.mem_of_getElem? (i := 9) rfl)) (by decide) (by decide)) (g := (mkF m 512 #[.val (.long j0), .second, .val (.long j1), .second, .val (.int i2), .val (.int i3), .val (.ref b1), .val (.ref b18), .val (.int (0 : Int32)), .val (.ref b37), .val (.int (0 : Int32)), .val (.int (0 : Int32)), .val (.ref b38), .val (.ref b39), .unset] [(.int (9 : Int32)), (.ref b1), (.ref b38), (.ref b18)])) rfl (by rw [hml]; rfl) (argsL := [(.ref b18), (.ref b38), (.ref b1), (.int (9 : Int32))]) (rest := []) (lenOf own_pd1 rfl) rfl (by show 2 * 0 + _ ≤ _; exact Nat.le_of_eq rfl) (hb hby at_512) (fun _ _ => ⟨rfl, ec59, (by decide : 5 + 0 ≤ _), (by decide : 160 + 0 ≤ _)⟩)
    dsimp only [Pt.U, Pt.locs, Pt.cells, Pt.slots] at X61 l61 y61 z61 st61 hQ61
    subst l61 y61 z61
    obtain ⟨rfl, Nq61, hp61⟩ := hQ61
    have Nf := Fr.app Nf Nq61
    obtain ⟨LhX61, X61, Nf⟩ := own_hide X61 Nf
    have ec61 : T61.heap = T39.heap := hp61
    refine own_by (B := T61.setTop (mkF m 515 #[.val (.long j0), .second, .val (.long j1), .second, .val (.int i2), .val (.int i3), .val (.ref b1), .val (.ref b18), .val (.int (0 : Int32)), .val (.ref b37), .val (.int (0 : Int32)), .val (.int (0 : Int32)), .val (.ref b38), .val (.ref b39), .unset] [(.int (1 : Int32))])) st61 ?_
    refine own_by (B := T61.setTop (mkF m 518 #[.val (.long j0), .second, .val (.long j1), .second, .val (.int i2), .val (.int i3), .val (.ref b1), .val (.ref b18), .val (.int (0 : Int32)), .val (.ref b37), .val (.int (0 : Int32)), .val (.int (0 : Int32)), .val (.ref b38), .val (.ref b39), .unset] [])) (fun t k => XS.ifNo X61.here hx rfl (hb hby at_515) rfl ((if0 _ _).trans (feq (by decide)).1) k) ?_
    refine own_by (B := T61.setTop (mkF m 520 #[.val (.long j0), .second, .val (.long j1), .second, .val (.int i2), .val (.int i3), .val (.ref b1), .val (.ref b18), .val (.int (0 : Int32)), .val (.ref b37), .val (.int (0 : Int32)), .val (.int (0 : Int32)), .val (.ref b38), .val (.ref b39), .unset] [(.ref b18)])) (fun t k => XS.aload X61.here hx rfl (hb hby at_518) rfl rfl k) ?_
    refine own_by (B := T61.setTop (mkF m 522 #[.val (.long j0), .second, .val (.long j1), .second, .val (.int i2), .val (.int i3), .val (.ref b1), .val (.ref b18), .val (.int (0 : Int32)), .val (.ref b37), .val (.int (0 : Int32)), .val (.int (0 : Int32)), .val (.ref b38), .val (.ref b39), .unset] [(.ref b38), (.ref b18)])) (fun t k => XS.aload X61.here hx rfl (hb hby at_520) rfl rfl k) ?_
    refine own_by (B := T61.setTop (mkF m 524 #[.val (.long j0), .second, .val (.long j1), .second, .val (.int i2), .val (.int i3), .val (.ref b1), .val (.ref b18), .val (.int (0 : Int32)), .val (.ref b37), .val (.int (0 : Int32)), .val (.int (0 : Int32)), .val (.ref b38), .val (.ref b39), .unset] [(.ref b1), (.ref b38), (.ref b18)])) (fun t k => XS.aload X61.here hx rfl (hb hby at_522) rfl rfl k) ?_
    refine own_by (B := T61.setTop (mkF m 526 #[.val (.long j0), .second, .val (.long j1), .second, .val (.int i2), .val (.int i3), .val (.ref b1), .val (.ref b18), .val (.int (0 : Int32)), .val (.ref b37), .val (.int (0 : Int32)), .val (.int (0 : Int32)), .val (.ref b38), .val (.ref b39), .unset] [(.int (10 : Int32)), (.ref b1), (.ref b38), (.ref b18)])) (fun t k => XS.bipush X61.here hx rfl (hb hby at_524) k) ?_
    obtain ⟨xv62, hxv62⟩ := hfp 10 (by omega)
    obtain ⟨_, _, ⟨T63, L63, k63, n63⟩, -, X63, ⟨Lc63, hQ63, l63, y63, z63⟩, st63⟩ := Jvm.LawKit.callS X61 hx (y := (⟨"com/example/palaver/palaver/protocol/FlapLoginRoastPinLaw", "at", "([B[B[BI)Z"⟩ : MethodName)) hown (mvT hZ (hw _ (List.mem_of_getElem? (i := 7) rfl))) (mvT hZ (hw _ (List.mem_of_getElem? (i := 8) rfl))) (mvT hZ (hw _ (List.mem_of_getElem? (i := 9) rfl))) (mvT hZ (hw _ (List.mem_of_getElem? (i := 10) rfl))) (by decide) (backOf (W := 0) (rmA l Z a0 hw [] b18 b38 b1 10 18 fp (own_out fp 18) xv62 T39.heap n0 Zs V_b18 V_b38 V_b1 (by omega) (by omega) hxv62 (own_outv (by omega) hxv62)) hZ (hw _ (List.mem_of_getElem? (i := 10) rfl)) (hw _ (List.mem_of_getElem? (i := 9) rfl)) (by decide) (by decide)) (g := (mkF m 526 #[.val (.long j0), .second, .val (.long j1), .second, .val (.int i2), .val (.int i3), .val (.ref b1), .val (.ref b18), .val (.int (0 : Int32)), .val (.ref b37), .val (.int (0 : Int32)), .val (.int (0 : Int32)), .val (.ref b38), .val (.ref b39), .unset] [(.int (10 : Int32)), (.ref b1), (.ref b38), (.ref b18)])) rfl (by rw [hml]; rfl) (argsL := [(.ref b18), (.ref b38), (.ref b1), (.int (10 : Int32))]) (rest := []) (lenOf own_pd1 rfl) rfl (by show 2 * 0 + _ ≤ _; exact Nat.le_of_eq rfl) (hb hby at_526) (fun _ _ => ⟨rfl, ec61, (by decide : 5 + 0 ≤ _), (by decide : 160 + 0 ≤ _)⟩)
    dsimp only [Pt.U, Pt.locs, Pt.cells, Pt.slots] at X63 l63 y63 z63 st63 hQ63
    subst l63 y63 z63
    obtain ⟨rfl, Nq63, hp63⟩ := hQ63
    have Nf := Fr.app Nf Nq63
    obtain ⟨LhX63, X63, Nf⟩ := own_hide X63 Nf
    have ec63 : T63.heap = T39.heap := hp63
    refine own_by (B := T63.setTop (mkF m 529 #[.val (.long j0), .second, .val (.long j1), .second, .val (.int i2), .val (.int i3), .val (.ref b1), .val (.ref b18), .val (.int (0 : Int32)), .val (.ref b37), .val (.int (0 : Int32)), .val (.int (0 : Int32)), .val (.ref b38), .val (.ref b39), .unset] [(.int (1 : Int32))])) st63 ?_
    refine own_by (B := T63.setTop (mkF m 532 #[.val (.long j0), .second, .val (.long j1), .second, .val (.int i2), .val (.int i3), .val (.ref b1), .val (.ref b18), .val (.int (0 : Int32)), .val (.ref b37), .val (.int (0 : Int32)), .val (.int (0 : Int32)), .val (.ref b38), .val (.ref b39), .unset] [])) (fun t k => XS.ifNo X63.here hx rfl (hb hby at_529) rfl ((if0 _ _).trans (feq (by decide)).1) k) ?_
    refine own_by (B := T63.setTop (mkF m 534 #[.val (.long j0), .second, .val (.long j1), .second, .val (.int i2), .val (.int i3), .val (.ref b1), .val (.ref b18), .val (.int (0 : Int32)), .val (.ref b37), .val (.int (0 : Int32)), .val (.int (0 : Int32)), .val (.ref b38), .val (.ref b39), .unset] [(.ref b18)])) (fun t k => XS.aload X63.here hx rfl (hb hby at_532) rfl rfl k) ?_
    refine own_by (B := T63.setTop (mkF m 536 #[.val (.long j0), .second, .val (.long j1), .second, .val (.int i2), .val (.int i3), .val (.ref b1), .val (.ref b18), .val (.int (0 : Int32)), .val (.ref b37), .val (.int (0 : Int32)), .val (.int (0 : Int32)), .val (.ref b38), .val (.ref b39), .unset] [(.ref b38), (.ref b18)])) (fun t k => XS.aload X63.here hx rfl (hb hby at_534) rfl rfl k) ?_
    refine own_by (B := T63.setTop (mkF m 538 #[.val (.long j0), .second, .val (.long j1), .second, .val (.int i2), .val (.int i3), .val (.ref b1), .val (.ref b18), .val (.int (0 : Int32)), .val (.ref b37), .val (.int (0 : Int32)), .val (.int (0 : Int32)), .val (.ref b38), .val (.ref b39), .unset] [(.ref b1), (.ref b38), (.ref b18)])) (fun t k => XS.aload X63.here hx rfl (hb hby at_536) rfl rfl k) ?_
    refine own_by (B := T63.setTop (mkF m 540 #[.val (.long j0), .second, .val (.long j1), .second, .val (.int i2), .val (.int i3), .val (.ref b1), .val (.ref b18), .val (.int (0 : Int32)), .val (.ref b37), .val (.int (0 : Int32)), .val (.int (0 : Int32)), .val (.ref b38), .val (.ref b39), .unset] [(.int (11 : Int32)), (.ref b1), (.ref b38), (.ref b18)])) (fun t k => XS.bipush X63.here hx rfl (hb hby at_538) k) ?_
    obtain ⟨xv64, hxv64⟩ := hfp 11 (by omega)
    obtain ⟨_, _, ⟨T65, L65, k65, n65⟩, -, X65, ⟨Lc65, hQ65, l65, y65, z65⟩, st65⟩ := Jvm.LawKit.callS X63 hx (y := (⟨"com/example/palaver/palaver/protocol/FlapLoginRoastPinLaw", "at", "([B[B[BI)Z"⟩ : MethodName)) hown (mvT hZ (hw _ (List.mem_of_getElem? (i := 7) rfl))) (mvT hZ (hw _ (List.mem_of_getElem? (i := 8) rfl))) (mvT hZ (hw _ (List.mem_of_getElem? (i := 9) rfl))) (mvT hZ (hw _ (List.mem_of_getElem? (i := 10) rfl))) (by decide) (backOf (W := 0) (rmA l Z a0 hw [] b18 b38 b1 11 18 fp (own_out fp 18) xv64 T39.heap n0 Zs V_b18 V_b38 V_b1 (by omega) (by omega) hxv64 (own_outv (by omega) hxv64)) hZ (hw _ (List.mem_of_getElem? (i := 10) rfl)) (hw _ (List.mem_of_getElem? (i := 9) rfl)) (by decide) (by decide)) (g := (mkF m 540 #[.val (.long j0), .second, .val (.long j1), .second, .val (.int i2), .val (.int i3), .val (.ref b1), .val (.ref b18), .val (.int (0 : Int32)), .val (.ref b37), .val (.int (0 : Int32)), .val (.int (0 : Int32)), .val (.ref b38), .val (.ref b39), .unset] [(.int (11 : Int32)), (.ref b1), (.ref b38), (.ref b18)])) rfl (by rw [hml]; rfl) (argsL := [(.ref b18), (.ref b38), (.ref b1), (.int (11 : Int32))]) (rest := []) (lenOf own_pd1 rfl) rfl (by show 2 * 0 + _ ≤ _; exact Nat.le_of_eq rfl) (hb hby at_540) (fun _ _ => ⟨rfl, ec63, (by decide : 5 + 0 ≤ _), (by decide : 160 + 0 ≤ _)⟩)
    dsimp only [Pt.U, Pt.locs, Pt.cells, Pt.slots] at X65 l65 y65 z65 st65 hQ65
    subst l65 y65 z65
    obtain ⟨rfl, Nq65, hp65⟩ := hQ65
    have Nf := Fr.app Nf Nq65
    obtain ⟨LhX65, X65, Nf⟩ := own_hide X65 Nf
    have ec65 : T65.heap = T39.heap := hp65
    refine own_by (B := T65.setTop (mkF m 543 #[.val (.long j0), .second, .val (.long j1), .second, .val (.int i2), .val (.int i3), .val (.ref b1), .val (.ref b18), .val (.int (0 : Int32)), .val (.ref b37), .val (.int (0 : Int32)), .val (.int (0 : Int32)), .val (.ref b38), .val (.ref b39), .unset] [(.int (1 : Int32))])) st65 ?_
    refine own_by (B := T65.setTop (mkF m 546 #[.val (.long j0), .second, .val (.long j1), .second, .val (.int i2), .val (.int i3), .val (.ref b1), .val (.ref b18), .val (.int (0 : Int32)), .val (.ref b37), .val (.int (0 : Int32)), .val (.int (0 : Int32)), .val (.ref b38), .val (.ref b39), .unset] [])) (fun t k => XS.ifNo X65.here hx rfl (hb hby at_543) rfl ((if0 _ _).trans (feq (by decide)).1) k) ?_
    refine own_by (B := T65.setTop (mkF m 548 #[.val (.long j0), .second, .val (.long j1), .second, .val (.int i2), .val (.int i3), .val (.ref b1), .val (.ref b18), .val (.int (0 : Int32)), .val (.ref b37), .val (.int (0 : Int32)), .val (.int (0 : Int32)), .val (.ref b38), .val (.ref b39), .unset] [(.ref b18)])) (fun t k => XS.aload X65.here hx rfl (hb hby at_546) rfl rfl k) ?_
    refine own_by (B := T65.setTop (mkF m 550 #[.val (.long j0), .second, .val (.long j1), .second, .val (.int i2), .val (.int i3), .val (.ref b1), .val (.ref b18), .val (.int (0 : Int32)), .val (.ref b37), .val (.int (0 : Int32)), .val (.int (0 : Int32)), .val (.ref b38), .val (.ref b39), .unset] [(.ref b38), (.ref b18)])) (fun t k => XS.aload X65.here hx rfl (hb hby at_548) rfl rfl k) ?_
    refine own_by (B := T65.setTop (mkF m 552 #[.val (.long j0), .second, .val (.long j1), .second, .val (.int i2), .val (.int i3), .val (.ref b1), .val (.ref b18), .val (.int (0 : Int32)), .val (.ref b37), .val (.int (0 : Int32)), .val (.int (0 : Int32)), .val (.ref b38), .val (.ref b39), .unset] [(.ref b1), (.ref b38), (.ref b18)])) (fun t k => XS.aload X65.here hx rfl (hb hby at_550) rfl rfl k) ?_
    refine own_by (B := T65.setTop (mkF m 554 #[.val (.long j0), .second, .val (.long j1), .second, .val (.int i2), .val (.int i3), .val (.ref b1), .val (.ref b18), .val (.int (0 : Int32)), .val (.ref b37), .val (.int (0 : Int32)), .val (.int (0 : Int32)), .val (.ref b38), .val (.ref b39), .unset] [(.int (12 : Int32)), (.ref b1), (.ref b38), (.ref b18)])) (fun t k => XS.bipush X65.here hx rfl (hb hby at_552) k) ?_
    obtain ⟨xv66, hxv66⟩ := hfp 12 (by omega)
    obtain ⟨_, _, ⟨T67, L67, k67, n67⟩, -, X67, ⟨Lc67, hQ67, l67, y67, z67⟩, st67⟩ := Jvm.LawKit.callS X65 hx (y := (⟨"com/example/palaver/palaver/protocol/FlapLoginRoastPinLaw", "at", "([B[B[BI)Z"⟩ : MethodName)) hown (mvT hZ (hw _ (List.mem_of_getElem? (i := 7) rfl))) (mvT hZ (hw _ (List.mem_of_getElem? (i := 8) rfl))) (mvT hZ (hw _ (List.mem_of_getElem? (i := 9) rfl))) (mvT hZ (hw _ (List.mem_of_getElem? (i := 10) rfl))) (by decide) (backOf (W := 0) (rmA l Z a0 hw [] b18 b38 b1 12 18 fp (own_out fp 18) xv66 T39.heap n0 Zs V_b18 V_b38 V_b1 (by omega) (by omega) hxv66 (own_outv (by omega) hxv66)) hZ (hw _ (List.mem_of_getElem? (i := 10) rfl)) (hw _ (List.mem_of_getElem? (i := 9) rfl)) (by decide) (by decide)) (g := (mkF m 554 #[.val (.long j0), .second, .val (.long j1), .second, .val (.int i2), .val (.int i3), .val (.ref b1), .val (.ref b18), .val (.int (0 : Int32)), .val (.ref b37), .val (.int (0 : Int32)), .val (.int (0 : Int32)), .val (.ref b38), .val (.ref b39), .unset] [(.int (12 : Int32)), (.ref b1), (.ref b38), (.ref b18)])) rfl (by rw [hml]; rfl) (argsL := [(.ref b18), (.ref b38), (.ref b1), (.int (12 : Int32))]) (rest := []) (lenOf own_pd1 rfl) rfl (by show 2 * 0 + _ ≤ _; exact Nat.le_of_eq rfl) (hb hby at_554) (fun _ _ => ⟨rfl, ec65, (by decide : 5 + 0 ≤ _), (by decide : 160 + 0 ≤ _)⟩)
    dsimp only [Pt.U, Pt.locs, Pt.cells, Pt.slots] at X67 l67 y67 z67 st67 hQ67
    subst l67 y67 z67
    obtain ⟨rfl, Nq67, hp67⟩ := hQ67
    have Nf := Fr.app Nf Nq67
    obtain ⟨LhX67, X67, Nf⟩ := own_hide X67 Nf
    have ec67 : T67.heap = T39.heap := hp67
    refine own_by (B := T67.setTop (mkF m 557 #[.val (.long j0), .second, .val (.long j1), .second, .val (.int i2), .val (.int i3), .val (.ref b1), .val (.ref b18), .val (.int (0 : Int32)), .val (.ref b37), .val (.int (0 : Int32)), .val (.int (0 : Int32)), .val (.ref b38), .val (.ref b39), .unset] [(.int (1 : Int32))])) st67 ?_
    refine own_by (B := T67.setTop (mkF m 560 #[.val (.long j0), .second, .val (.long j1), .second, .val (.int i2), .val (.int i3), .val (.ref b1), .val (.ref b18), .val (.int (0 : Int32)), .val (.ref b37), .val (.int (0 : Int32)), .val (.int (0 : Int32)), .val (.ref b38), .val (.ref b39), .unset] [])) (fun t k => XS.ifNo X67.here hx rfl (hb hby at_557) rfl ((if0 _ _).trans (feq (by decide)).1) k) ?_
    refine own_by (B := T67.setTop (mkF m 562 #[.val (.long j0), .second, .val (.long j1), .second, .val (.int i2), .val (.int i3), .val (.ref b1), .val (.ref b18), .val (.int (0 : Int32)), .val (.ref b37), .val (.int (0 : Int32)), .val (.int (0 : Int32)), .val (.ref b38), .val (.ref b39), .unset] [(.ref b18)])) (fun t k => XS.aload X67.here hx rfl (hb hby at_560) rfl rfl k) ?_
    refine own_by (B := T67.setTop (mkF m 564 #[.val (.long j0), .second, .val (.long j1), .second, .val (.int i2), .val (.int i3), .val (.ref b1), .val (.ref b18), .val (.int (0 : Int32)), .val (.ref b37), .val (.int (0 : Int32)), .val (.int (0 : Int32)), .val (.ref b38), .val (.ref b39), .unset] [(.ref b38), (.ref b18)])) (fun t k => XS.aload X67.here hx rfl (hb hby at_562) rfl rfl k) ?_
    refine own_by (B := T67.setTop (mkF m 566 #[.val (.long j0), .second, .val (.long j1), .second, .val (.int i2), .val (.int i3), .val (.ref b1), .val (.ref b18), .val (.int (0 : Int32)), .val (.ref b37), .val (.int (0 : Int32)), .val (.int (0 : Int32)), .val (.ref b38), .val (.ref b39), .unset] [(.ref b1), (.ref b38), (.ref b18)])) (fun t k => XS.aload X67.here hx rfl (hb hby at_564) rfl rfl k) ?_
    refine own_by (B := T67.setTop (mkF m 568 #[.val (.long j0), .second, .val (.long j1), .second, .val (.int i2), .val (.int i3), .val (.ref b1), .val (.ref b18), .val (.int (0 : Int32)), .val (.ref b37), .val (.int (0 : Int32)), .val (.int (0 : Int32)), .val (.ref b38), .val (.ref b39), .unset] [(.int (13 : Int32)), (.ref b1), (.ref b38), (.ref b18)])) (fun t k => XS.bipush X67.here hx rfl (hb hby at_566) k) ?_
    obtain ⟨xv68, hxv68⟩ := hfp 13 (by omega)
    obtain ⟨_, _, ⟨T69, L69, k69, n69⟩, -, X69, ⟨Lc69, hQ69, l69, y69, z69⟩, st69⟩ := Jvm.LawKit.callS X67 hx (y := (⟨"com/example/palaver/palaver/protocol/FlapLoginRoastPinLaw", "at", "([B[B[BI)Z"⟩ : MethodName)) hown (mvT hZ (hw _ (List.mem_of_getElem? (i := 7) rfl))) (mvT hZ (hw _ (List.mem_of_getElem? (i := 8) rfl))) (mvT hZ (hw _ (List.mem_of_getElem? (i := 9) rfl))) (mvT hZ (hw _ (List.mem_of_getElem? (i := 10) rfl))) (by decide) (backOf (W := 0) (rmA l Z a0 hw [] b18 b38 b1 13 18 fp (own_out fp 18) xv68 T39.heap n0 Zs V_b18 V_b38 V_b1 (by omega) (by omega) hxv68 (own_outv (by omega) hxv68)) hZ (hw _ (List.mem_of_getElem? (i := 10) rfl)) (hw _ (List.mem_of_getElem? (i := 9) rfl)) (by decide) (by decide)) (g := (mkF m 568 #[.val (.long j0), .second, .val (.long j1), .second, .val (.int i2), .val (.int i3), .val (.ref b1), .val (.ref b18), .val (.int (0 : Int32)), .val (.ref b37), .val (.int (0 : Int32)), .val (.int (0 : Int32)), .val (.ref b38), .val (.ref b39), .unset] [(.int (13 : Int32)), (.ref b1), (.ref b38), (.ref b18)])) rfl (by rw [hml]; rfl) (argsL := [(.ref b18), (.ref b38), (.ref b1), (.int (13 : Int32))]) (rest := []) (lenOf own_pd1 rfl) rfl (by show 2 * 0 + _ ≤ _; exact Nat.le_of_eq rfl) (hb hby at_568) (fun _ _ => ⟨rfl, ec67, (by decide : 5 + 0 ≤ _), (by decide : 160 + 0 ≤ _)⟩)
    dsimp only [Pt.U, Pt.locs, Pt.cells, Pt.slots] at X69 l69 y69 z69 st69 hQ69
    subst l69 y69 z69
    obtain ⟨rfl, Nq69, hp69⟩ := hQ69
    have Nf := Fr.app Nf Nq69
    obtain ⟨LhX69, X69, Nf⟩ := own_hide X69 Nf
    have ec69 : T69.heap = T39.heap := hp69
    refine own_by (B := T69.setTop (mkF m 571 #[.val (.long j0), .second, .val (.long j1), .second, .val (.int i2), .val (.int i3), .val (.ref b1), .val (.ref b18), .val (.int (0 : Int32)), .val (.ref b37), .val (.int (0 : Int32)), .val (.int (0 : Int32)), .val (.ref b38), .val (.ref b39), .unset] [(.int (1 : Int32))])) st69 ?_
    refine own_by (B := T69.setTop (mkF m 574 #[.val (.long j0), .second, .val (.long j1), .second, .val (.int i2), .val (.int i3), .val (.ref b1), .val (.ref b18), .val (.int (0 : Int32)), .val (.ref b37), .val (.int (0 : Int32)), .val (.int (0 : Int32)), .val (.ref b38), .val (.ref b39), .unset] [])) (fun t k => XS.ifNo X69.here hx rfl (hb hby at_571) rfl ((if0 _ _).trans (feq (by decide)).1) k) ?_
    refine own_by (B := T69.setTop (mkF m 576 #[.val (.long j0), .second, .val (.long j1), .second, .val (.int i2), .val (.int i3), .val (.ref b1), .val (.ref b18), .val (.int (0 : Int32)), .val (.ref b37), .val (.int (0 : Int32)), .val (.int (0 : Int32)), .val (.ref b38), .val (.ref b39), .unset] [(.ref b18)])) (fun t k => XS.aload X69.here hx rfl (hb hby at_574) rfl rfl k) ?_
    refine own_by (B := T69.setTop (mkF m 578 #[.val (.long j0), .second, .val (.long j1), .second, .val (.int i2), .val (.int i3), .val (.ref b1), .val (.ref b18), .val (.int (0 : Int32)), .val (.ref b37), .val (.int (0 : Int32)), .val (.int (0 : Int32)), .val (.ref b38), .val (.ref b39), .unset] [(.ref b38), (.ref b18)])) (fun t k => XS.aload X69.here hx rfl (hb hby at_576) rfl rfl k) ?_
    refine own_by (B := T69.setTop (mkF m 580 #[.val (.long j0), .second, .val (.long j1), .second, .val (.int i2), .val (.int i3), .val (.ref b1), .val (.ref b18), .val (.int (0 : Int32)), .val (.ref b37), .val (.int (0 : Int32)), .val (.int (0 : Int32)), .val (.ref b38), .val (.ref b39), .unset] [(.ref b1), (.ref b38), (.ref b18)])) (fun t k => XS.aload X69.here hx rfl (hb hby at_578) rfl rfl k) ?_
    refine own_by (B := T69.setTop (mkF m 582 #[.val (.long j0), .second, .val (.long j1), .second, .val (.int i2), .val (.int i3), .val (.ref b1), .val (.ref b18), .val (.int (0 : Int32)), .val (.ref b37), .val (.int (0 : Int32)), .val (.int (0 : Int32)), .val (.ref b38), .val (.ref b39), .unset] [(.int (14 : Int32)), (.ref b1), (.ref b38), (.ref b18)])) (fun t k => XS.bipush X69.here hx rfl (hb hby at_580) k) ?_
    obtain ⟨xv70, hxv70⟩ := hfp 14 (by omega)
    obtain ⟨_, _, ⟨T71, L71, k71, n71⟩, -, X71, ⟨Lc71, hQ71, l71, y71, z71⟩, st71⟩ := Jvm.LawKit.callS X69 hx (y := (⟨"com/example/palaver/palaver/protocol/FlapLoginRoastPinLaw", "at", "([B[B[BI)Z"⟩ : MethodName)) hown (mvT hZ (hw _ (List.mem_of_getElem? (i := 7) rfl))) (mvT hZ (hw _ (List.mem_of_getElem? (i := 8) rfl))) (mvT hZ (hw _ (List.mem_of_getElem? (i := 9) rfl))) (mvT hZ (hw _ (List.mem_of_getElem? (i := 10) rfl))) (by decide) (backOf (W := 0) (rmA l Z a0 hw [] b18 b38 b1 14 18 fp (own_out fp 18) xv70 T39.heap n0 Zs V_b18 V_b38 V_b1 (by omega) (by omega) hxv70 (own_outv (by omega) hxv70)) hZ (hw _ (List.mem_of_getElem? (i := 10) rfl)) (hw _ (List.mem_of_getElem? (i := 9) rfl)) (by decide) (by decide)) (g := (mkF m 582 #[.val (.long j0), .second, .val (.long j1), .second, .val (.int i2), .val (.int i3), .val (.ref b1), .val (.ref b18), .val (.int (0 : Int32)), .val (.ref b37), .val (.int (0 : Int32)), .val (.int (0 : Int32)), .val (.ref b38), .val (.ref b39), .unset] [(.int (14 : Int32)), (.ref b1), (.ref b38), (.ref b18)])) rfl (by rw [hml]; rfl) (argsL := [(.ref b18), (.ref b38), (.ref b1), (.int (14 : Int32))]) (rest := []) (lenOf own_pd1 rfl) rfl (by show 2 * 0 + _ ≤ _; exact Nat.le_of_eq rfl) (hb hby at_582) (fun _ _ => ⟨rfl, ec69, (by decide : 5 + 0 ≤ _), (by decide : 160 + 0 ≤ _)⟩)
    dsimp only [Pt.U, Pt.locs, Pt.cells, Pt.slots] at X71 l71 y71 z71 st71 hQ71
    subst l71 y71 z71
    obtain ⟨rfl, Nq71, hp71⟩ := hQ71
    have Nf := Fr.app Nf Nq71
    obtain ⟨LhX71, X71, Nf⟩ := own_hide X71 Nf
    have ec71 : T71.heap = T39.heap := hp71
    refine own_by (B := T71.setTop (mkF m 585 #[.val (.long j0), .second, .val (.long j1), .second, .val (.int i2), .val (.int i3), .val (.ref b1), .val (.ref b18), .val (.int (0 : Int32)), .val (.ref b37), .val (.int (0 : Int32)), .val (.int (0 : Int32)), .val (.ref b38), .val (.ref b39), .unset] [(.int (1 : Int32))])) st71 ?_
    refine own_by (B := T71.setTop (mkF m 588 #[.val (.long j0), .second, .val (.long j1), .second, .val (.int i2), .val (.int i3), .val (.ref b1), .val (.ref b18), .val (.int (0 : Int32)), .val (.ref b37), .val (.int (0 : Int32)), .val (.int (0 : Int32)), .val (.ref b38), .val (.ref b39), .unset] [])) (fun t k => XS.ifNo X71.here hx rfl (hb hby at_585) rfl ((if0 _ _).trans (feq (by decide)).1) k) ?_
    refine own_by (B := T71.setTop (mkF m 590 #[.val (.long j0), .second, .val (.long j1), .second, .val (.int i2), .val (.int i3), .val (.ref b1), .val (.ref b18), .val (.int (0 : Int32)), .val (.ref b37), .val (.int (0 : Int32)), .val (.int (0 : Int32)), .val (.ref b38), .val (.ref b39), .unset] [(.ref b18)])) (fun t k => XS.aload X71.here hx rfl (hb hby at_588) rfl rfl k) ?_
    refine own_by (B := T71.setTop (mkF m 592 #[.val (.long j0), .second, .val (.long j1), .second, .val (.int i2), .val (.int i3), .val (.ref b1), .val (.ref b18), .val (.int (0 : Int32)), .val (.ref b37), .val (.int (0 : Int32)), .val (.int (0 : Int32)), .val (.ref b38), .val (.ref b39), .unset] [(.ref b38), (.ref b18)])) (fun t k => XS.aload X71.here hx rfl (hb hby at_590) rfl rfl k) ?_
    refine own_by (B := T71.setTop (mkF m 594 #[.val (.long j0), .second, .val (.long j1), .second, .val (.int i2), .val (.int i3), .val (.ref b1), .val (.ref b18), .val (.int (0 : Int32)), .val (.ref b37), .val (.int (0 : Int32)), .val (.int (0 : Int32)), .val (.ref b38), .val (.ref b39), .unset] [(.ref b1), (.ref b38), (.ref b18)])) (fun t k => XS.aload X71.here hx rfl (hb hby at_592) rfl rfl k) ?_
    refine own_by (B := T71.setTop (mkF m 596 #[.val (.long j0), .second, .val (.long j1), .second, .val (.int i2), .val (.int i3), .val (.ref b1), .val (.ref b18), .val (.int (0 : Int32)), .val (.ref b37), .val (.int (0 : Int32)), .val (.int (0 : Int32)), .val (.ref b38), .val (.ref b39), .unset] [(.int (15 : Int32)), (.ref b1), (.ref b38), (.ref b18)])) (fun t k => XS.bipush X71.here hx rfl (hb hby at_594) k) ?_
    obtain ⟨xv72, hxv72⟩ := hfp 15 (by omega)
    obtain ⟨_, _, ⟨T73, L73, k73, n73⟩, -, X73, ⟨Lc73, hQ73, l73, y73, z73⟩, st73⟩ := Jvm.LawKit.callS X71 hx (y := (⟨"com/example/palaver/palaver/protocol/FlapLoginRoastPinLaw", "at", "([B[B[BI)Z"⟩ : MethodName)) hown (mvT hZ (hw _ (List.mem_of_getElem? (i := 7) rfl))) (mvT hZ (hw _ (List.mem_of_getElem? (i := 8) rfl))) (mvT hZ (hw _ (List.mem_of_getElem? (i := 9) rfl))) (mvT hZ (hw _ (List.mem_of_getElem? (i := 10) rfl))) (by decide) (backOf (W := 0) (rmA l Z a0 hw [] b18 b38 b1 15 18 fp (own_out fp 18) xv72 T39.heap n0 Zs V_b18 V_b38 V_b1 (by omega) (by omega) hxv72 (own_outv (by omega) hxv72)) hZ (hw _ (List.mem_of_getElem? (i := 10) rfl)) (hw _ (List.mem_of_getElem? (i := 9) rfl)) (by decide) (by decide)) (g := (mkF m 596 #[.val (.long j0), .second, .val (.long j1), .second, .val (.int i2), .val (.int i3), .val (.ref b1), .val (.ref b18), .val (.int (0 : Int32)), .val (.ref b37), .val (.int (0 : Int32)), .val (.int (0 : Int32)), .val (.ref b38), .val (.ref b39), .unset] [(.int (15 : Int32)), (.ref b1), (.ref b38), (.ref b18)])) rfl (by rw [hml]; rfl) (argsL := [(.ref b18), (.ref b38), (.ref b1), (.int (15 : Int32))]) (rest := []) (lenOf own_pd1 rfl) rfl (by show 2 * 0 + _ ≤ _; exact Nat.le_of_eq rfl) (hb hby at_596) (fun _ _ => ⟨rfl, ec71, (by decide : 5 + 0 ≤ _), (by decide : 160 + 0 ≤ _)⟩)
    dsimp only [Pt.U, Pt.locs, Pt.cells, Pt.slots] at X73 l73 y73 z73 st73 hQ73
    subst l73 y73 z73
    obtain ⟨rfl, Nq73, hp73⟩ := hQ73
    have Nf := Fr.app Nf Nq73
    obtain ⟨LhX73, X73, Nf⟩ := own_hide X73 Nf
    have ec73 : T73.heap = T39.heap := hp73
    refine own_by (B := T73.setTop (mkF m 599 #[.val (.long j0), .second, .val (.long j1), .second, .val (.int i2), .val (.int i3), .val (.ref b1), .val (.ref b18), .val (.int (0 : Int32)), .val (.ref b37), .val (.int (0 : Int32)), .val (.int (0 : Int32)), .val (.ref b38), .val (.ref b39), .unset] [(.int (1 : Int32))])) st73 ?_
    refine own_by (B := T73.setTop (mkF m 602 #[.val (.long j0), .second, .val (.long j1), .second, .val (.int i2), .val (.int i3), .val (.ref b1), .val (.ref b18), .val (.int (0 : Int32)), .val (.ref b37), .val (.int (0 : Int32)), .val (.int (0 : Int32)), .val (.ref b38), .val (.ref b39), .unset] [])) (fun t k => XS.ifNo X73.here hx rfl (hb hby at_599) rfl ((if0 _ _).trans (feq (by decide)).1) k) ?_
    refine own_by (B := T73.setTop (mkF m 604 #[.val (.long j0), .second, .val (.long j1), .second, .val (.int i2), .val (.int i3), .val (.ref b1), .val (.ref b18), .val (.int (0 : Int32)), .val (.ref b37), .val (.int (0 : Int32)), .val (.int (0 : Int32)), .val (.ref b38), .val (.ref b39), .unset] [(.ref b18)])) (fun t k => XS.aload X73.here hx rfl (hb hby at_602) rfl rfl k) ?_
    refine own_by (B := T73.setTop (mkF m 606 #[.val (.long j0), .second, .val (.long j1), .second, .val (.int i2), .val (.int i3), .val (.ref b1), .val (.ref b18), .val (.int (0 : Int32)), .val (.ref b37), .val (.int (0 : Int32)), .val (.int (0 : Int32)), .val (.ref b38), .val (.ref b39), .unset] [(.ref b38), (.ref b18)])) (fun t k => XS.aload X73.here hx rfl (hb hby at_604) rfl rfl k) ?_
    refine own_by (B := T73.setTop (mkF m 608 #[.val (.long j0), .second, .val (.long j1), .second, .val (.int i2), .val (.int i3), .val (.ref b1), .val (.ref b18), .val (.int (0 : Int32)), .val (.ref b37), .val (.int (0 : Int32)), .val (.int (0 : Int32)), .val (.ref b38), .val (.ref b39), .unset] [(.ref b1), (.ref b38), (.ref b18)])) (fun t k => XS.aload X73.here hx rfl (hb hby at_606) rfl rfl k) ?_
    refine own_by (B := T73.setTop (mkF m 610 #[.val (.long j0), .second, .val (.long j1), .second, .val (.int i2), .val (.int i3), .val (.ref b1), .val (.ref b18), .val (.int (0 : Int32)), .val (.ref b37), .val (.int (0 : Int32)), .val (.int (0 : Int32)), .val (.ref b38), .val (.ref b39), .unset] [(.int (16 : Int32)), (.ref b1), (.ref b38), (.ref b18)])) (fun t k => XS.bipush X73.here hx rfl (hb hby at_608) k) ?_
    obtain ⟨xv74, hxv74⟩ := hfp 16 (by omega)
    obtain ⟨_, _, ⟨T75, L75, k75, n75⟩, -, X75, ⟨Lc75, hQ75, l75, y75, z75⟩, st75⟩ := Jvm.LawKit.callS X73 hx (y := (⟨"com/example/palaver/palaver/protocol/FlapLoginRoastPinLaw", "at", "([B[B[BI)Z"⟩ : MethodName)) hown (mvT hZ (hw _ (List.mem_of_getElem? (i := 7) rfl))) (mvT hZ (hw _ (List.mem_of_getElem? (i := 8) rfl))) (mvT hZ (hw _ (List.mem_of_getElem? (i := 9) rfl))) (mvT hZ (hw _ (List.mem_of_getElem? (i := 10) rfl))) (by decide) (backOf (W := 0) (rmA l Z a0 hw [] b18 b38 b1 16 18 fp (own_out fp 18) xv74 T39.heap n0 Zs V_b18 V_b38 V_b1 (by omega) (by omega) hxv74 (own_outv (by omega) hxv74)) hZ (hw _ (List.mem_of_getElem? (i := 10) rfl)) (hw _ (List.mem_of_getElem? (i := 9) rfl)) (by decide) (by decide)) (g := (mkF m 610 #[.val (.long j0), .second, .val (.long j1), .second, .val (.int i2), .val (.int i3), .val (.ref b1), .val (.ref b18), .val (.int (0 : Int32)), .val (.ref b37), .val (.int (0 : Int32)), .val (.int (0 : Int32)), .val (.ref b38), .val (.ref b39), .unset] [(.int (16 : Int32)), (.ref b1), (.ref b38), (.ref b18)])) rfl (by rw [hml]; rfl) (argsL := [(.ref b18), (.ref b38), (.ref b1), (.int (16 : Int32))]) (rest := []) (lenOf own_pd1 rfl) rfl (by show 2 * 0 + _ ≤ _; exact Nat.le_of_eq rfl) (hb hby at_610) (fun _ _ => ⟨rfl, ec73, (by decide : 5 + 0 ≤ _), (by decide : 160 + 0 ≤ _)⟩)
    dsimp only [Pt.U, Pt.locs, Pt.cells, Pt.slots] at X75 l75 y75 z75 st75 hQ75
    subst l75 y75 z75
    obtain ⟨rfl, Nq75, hp75⟩ := hQ75
    have Nf := Fr.app Nf Nq75
    obtain ⟨LhX75, X75, Nf⟩ := own_hide X75 Nf
    have ec75 : T75.heap = T39.heap := hp75
    refine own_by (B := T75.setTop (mkF m 613 #[.val (.long j0), .second, .val (.long j1), .second, .val (.int i2), .val (.int i3), .val (.ref b1), .val (.ref b18), .val (.int (0 : Int32)), .val (.ref b37), .val (.int (0 : Int32)), .val (.int (0 : Int32)), .val (.ref b38), .val (.ref b39), .unset] [(.int (1 : Int32))])) st75 ?_
    refine own_by (B := T75.setTop (mkF m 616 #[.val (.long j0), .second, .val (.long j1), .second, .val (.int i2), .val (.int i3), .val (.ref b1), .val (.ref b18), .val (.int (0 : Int32)), .val (.ref b37), .val (.int (0 : Int32)), .val (.int (0 : Int32)), .val (.ref b38), .val (.ref b39), .unset] [])) (fun t k => XS.ifNo X75.here hx rfl (hb hby at_613) rfl ((if0 _ _).trans (feq (by decide)).1) k) ?_
    refine own_by (B := T75.setTop (mkF m 618 #[.val (.long j0), .second, .val (.long j1), .second, .val (.int i2), .val (.int i3), .val (.ref b1), .val (.ref b18), .val (.int (0 : Int32)), .val (.ref b37), .val (.int (0 : Int32)), .val (.int (0 : Int32)), .val (.ref b38), .val (.ref b39), .unset] [(.ref b18)])) (fun t k => XS.aload X75.here hx rfl (hb hby at_616) rfl rfl k) ?_
    refine own_by (B := T75.setTop (mkF m 620 #[.val (.long j0), .second, .val (.long j1), .second, .val (.int i2), .val (.int i3), .val (.ref b1), .val (.ref b18), .val (.int (0 : Int32)), .val (.ref b37), .val (.int (0 : Int32)), .val (.int (0 : Int32)), .val (.ref b38), .val (.ref b39), .unset] [(.ref b38), (.ref b18)])) (fun t k => XS.aload X75.here hx rfl (hb hby at_618) rfl rfl k) ?_
    refine own_by (B := T75.setTop (mkF m 622 #[.val (.long j0), .second, .val (.long j1), .second, .val (.int i2), .val (.int i3), .val (.ref b1), .val (.ref b18), .val (.int (0 : Int32)), .val (.ref b37), .val (.int (0 : Int32)), .val (.int (0 : Int32)), .val (.ref b38), .val (.ref b39), .unset] [(.ref b1), (.ref b38), (.ref b18)])) (fun t k => XS.aload X75.here hx rfl (hb hby at_620) rfl rfl k) ?_
    refine own_by (B := T75.setTop (mkF m 624 #[.val (.long j0), .second, .val (.long j1), .second, .val (.int i2), .val (.int i3), .val (.ref b1), .val (.ref b18), .val (.int (0 : Int32)), .val (.ref b37), .val (.int (0 : Int32)), .val (.int (0 : Int32)), .val (.ref b38), .val (.ref b39), .unset] [(.int (17 : Int32)), (.ref b1), (.ref b38), (.ref b18)])) (fun t k => XS.bipush X75.here hx rfl (hb hby at_622) k) ?_
    obtain ⟨xv76, hxv76⟩ := hfp 17 (by omega)
    obtain ⟨_, _, ⟨T77, L77, k77, n77⟩, -, X77, ⟨Lc77, hQ77, l77, y77, z77⟩, st77⟩ := Jvm.LawKit.callS X75 hx (y := (⟨"com/example/palaver/palaver/protocol/FlapLoginRoastPinLaw", "at", "([B[B[BI)Z"⟩ : MethodName)) hown (mvT hZ (hw _ (List.mem_of_getElem? (i := 7) rfl))) (mvT hZ (hw _ (List.mem_of_getElem? (i := 8) rfl))) (mvT hZ (hw _ (List.mem_of_getElem? (i := 9) rfl))) (mvT hZ (hw _ (List.mem_of_getElem? (i := 10) rfl))) (by decide) (backOf (W := 0) (rmA l Z a0 hw [] b18 b38 b1 17 18 fp (own_out fp 18) xv76 T39.heap n0 Zs V_b18 V_b38 V_b1 (by omega) (by omega) hxv76 (own_outv (by omega) hxv76)) hZ (hw _ (List.mem_of_getElem? (i := 10) rfl)) (hw _ (List.mem_of_getElem? (i := 9) rfl)) (by decide) (by decide)) (g := (mkF m 624 #[.val (.long j0), .second, .val (.long j1), .second, .val (.int i2), .val (.int i3), .val (.ref b1), .val (.ref b18), .val (.int (0 : Int32)), .val (.ref b37), .val (.int (0 : Int32)), .val (.int (0 : Int32)), .val (.ref b38), .val (.ref b39), .unset] [(.int (17 : Int32)), (.ref b1), (.ref b38), (.ref b18)])) rfl (by rw [hml]; rfl) (argsL := [(.ref b18), (.ref b38), (.ref b1), (.int (17 : Int32))]) (rest := []) (lenOf own_pd1 rfl) rfl (by show 2 * 0 + _ ≤ _; exact Nat.le_of_eq rfl) (hb hby at_624) (fun _ _ => ⟨rfl, ec75, (by decide : 5 + 0 ≤ _), (by decide : 160 + 0 ≤ _)⟩)
    dsimp only [Pt.U, Pt.locs, Pt.cells, Pt.slots] at X77 l77 y77 z77 st77 hQ77
    subst l77 y77 z77
    obtain ⟨rfl, Nq77, hp77⟩ := hQ77
    have Nf := Fr.app Nf Nq77
    obtain ⟨LhX77, X77, Nf⟩ := own_hide X77 Nf
    have ec77 : T77.heap = T39.heap := hp77
    refine own_by (B := T77.setTop (mkF m 627 #[.val (.long j0), .second, .val (.long j1), .second, .val (.int i2), .val (.int i3), .val (.ref b1), .val (.ref b18), .val (.int (0 : Int32)), .val (.ref b37), .val (.int (0 : Int32)), .val (.int (0 : Int32)), .val (.ref b38), .val (.ref b39), .unset] [(.int (1 : Int32))])) st77 ?_
    refine own_by (B := T77.setTop (mkF m 630 #[.val (.long j0), .second, .val (.long j1), .second, .val (.int i2), .val (.int i3), .val (.ref b1), .val (.ref b18), .val (.int (0 : Int32)), .val (.ref b37), .val (.int (0 : Int32)), .val (.int (0 : Int32)), .val (.ref b38), .val (.ref b39), .unset] [])) (fun t k => XS.ifNo X77.here hx rfl (hb hby at_627) rfl ((if0 _ _).trans (feq (by decide)).1) k) ?_
    refine own_by (B := T77.setTop (mkF m 631 #[.val (.long j0), .second, .val (.long j1), .second, .val (.int i2), .val (.int i3), .val (.ref b1), .val (.ref b18), .val (.int (0 : Int32)), .val (.ref b37), .val (.int (0 : Int32)), .val (.int (0 : Int32)), .val (.ref b38), .val (.ref b39), .unset] [(.int (1 : Int32))])) (fun t k => XS.iconst X77.here hx rfl (hb hby at_630) k) ?_
    refine own_by (B := T77.setTop (mkF m 635 #[.val (.long j0), .second, .val (.long j1), .second, .val (.int i2), .val (.int i3), .val (.ref b1), .val (.ref b18), .val (.int (0 : Int32)), .val (.ref b37), .val (.int (0 : Int32)), .val (.int (0 : Int32)), .val (.ref b38), .val (.ref b39), .unset] [(.int (1 : Int32))])) (fun t k => XS.goto X77.here hx rfl (pc0 := 631) (pc' := 635) rfl (hb hby at_631) (by decide) (by decide) k) ?_
    refine own_by (B := T77.setTop (mkF m 637 #[.val (.long j0), .second, .val (.long j1), .second, .val (.int i2), .val (.int i3), .val (.ref b1), .val (.ref b18), .val (.int (0 : Int32)), .val (.ref b37), .val (.int (0 : Int32)), .val (.int (0 : Int32)), .val (.ref b38), .val (.ref b39), .val (.int (1 : Int32))] [])) (fun t k => XS.istore X77.here hx rfl (hb hby at_635) rfl (l' := #[.val (.long j0), .second, .val (.long j1), .second, .val (.int i2), .val (.int i3), .val (.ref b1), .val (.ref b18), .val (.int (0 : Int32)), .val (.ref b37), .val (.int (0 : Int32)), .val (.int (0 : Int32)), .val (.ref b38), .val (.ref b39), .val (.int (1 : Int32))]) rfl k) ?_
    refine own_by (B := T77.setTop (mkF m 639 #[.val (.long j0), .second, .val (.long j1), .second, .val (.int i2), .val (.int i3), .val (.ref b1), .val (.ref b18), .val (.int (0 : Int32)), .val (.ref b37), .val (.int (0 : Int32)), .val (.int (0 : Int32)), .val (.ref b38), .val (.ref b39), .val (.int (1 : Int32))] [(.int (0 : Int32))])) (fun t k => XS.iload X77.here hx rfl (hb hby at_637) rfl k) ?_
    refine own_by (B := T77.setTop (mkF m 682 #[.val (.long j0), .second, .val (.long j1), .second, .val (.int i2), .val (.int i3), .val (.ref b1), .val (.ref b18), .val (.int (0 : Int32)), .val (.ref b37), .val (.int (0 : Int32)), .val (.int (0 : Int32)), .val (.ref b38), .val (.ref b39), .val (.int (1 : Int32))] [])) (fun t k => XS.ifYes X77.here hx rfl (pc0 := 639) (pc' := 682) rfl (hb hby at_639) rfl ((if0 _ _).trans (flt (by decide)).2.2.2) (by decide) (by decide) k) ?_
    refine own_by (B := T77.setTop (mkF m 684 #[.val (.long j0), .second, .val (.long j1), .second, .val (.int i2), .val (.int i3), .val (.ref b1), .val (.ref b18), .val (.int (0 : Int32)), .val (.ref b37), .val (.int (0 : Int32)), .val (.int (0 : Int32)), .val (.ref b38), .val (.ref b39), .val (.int (1 : Int32))] [(.int (1 : Int32))])) (fun t k => XS.iload X77.here hx rfl (hb hby at_682) rfl k) ?_
    exact own_end X77 (v := some (.int (1 : Int32))) (fun h => by rw [Bd.returns] at h; cases h) (BodyLoose.notSynchronized Bd) (Q := (Q_rm0 Z j0 j1 i2 i3 wk h0 n0)) (fun fs hr => retN X77 hx (t := .boolean) Bd.returns (by simp) (hb hby at_684) hr) (show (Q_rm0 Z j0 j1 i2 i3 wk h0 n0) _ T77.heap _ from (by rw [ec77]; exact ⟨rfl, Nf⟩)) (by decide) (by decide)
  · have hpos : (0 : Int32) < Int32.ofNat n := own_ltN (i := 0) (by omega) (by omega)
    have hnz : ¬ Int32.ofNat n = 0 := fun q => absurd (own_injN (m := 0) (by omega) (by omega) q) (by omega)
    refine own_by (B := T36.setTop (mkF m 294 #[.val (.long j0), .second, .val (.long j1), .second, .val (.int i2), .val (.int i3), .val (.ref b1), .val (.ref b18), .val (.int (Int32.ofNat n)), .unset, .unset, .unset, .unset, .unset, .unset] [(.int (Int32.ofNat n))])) (fun t k => XS.iload X36.here hx rfl (hb hby at_292) rfl k) ?_
    obtain ⟨T78, h78, k78, X78, e78, E78, A78, st78⟩ := newP X36 hx hZ (hw _ (List.mem_of_getElem? (i := 0) rfl)) e36 (g := (mkF m 294 #[.val (.long j0), .second, .val (.long j1), .second, .val (.int i2), .val (.int i3), .val (.ref b1), .val (.ref b18), .val (.int (Int32.ofNat n)), .unset, .unset, .unset, .unset, .unset, .unset] [(.int (Int32.ofNat n))])) rfl (hb hby at_294) rfl (own_nn (by omega)) (cap := 63) (by rw [own_tn (by omega)]; omega) (by decide) (by decide) (by decide)
    obtain ⟨b78, gq78⟩ : ∃ z, z = h36.size := ⟨_, rfl⟩
    rw [← gq78] at A78 st78
    have ne_wk_b78 : wk ≠ b78 := Nat.ne_of_lt (Nat.lt_of_lt_of_le V_wk.lt (Nat.le_of_eq gq78.symm))
    have ne_b1_b78 : b1 ≠ b78 := Nat.ne_of_lt (Nat.lt_of_lt_of_le V_b1.lt (Nat.le_of_eq gq78.symm))
    have ne_b18_b78 : b18 ≠ b78 := Nat.ne_of_lt (Nat.lt_of_lt_of_le V_b18.lt (Nat.le_of_eq gq78.symm))
    have g_b78 : n0 ≤ b78 := Nat.le_trans Zs (Nat.le_of_eq gq78.symm)
    have V_wk := V_wk.ext E78
    have S_KEY := S_KEY.ext E78
    have V_b1 := V_b1.ext E78
    have V_b18 := V_b18.ext E78
    have Zs := Nat.le_trans Zs E78.1
    have V_b78 := own_Arf.new A78 (own_nn (by omega))
    refine own_by (B := T78.setTop (mkF m 296 #[.val (.long j0), .second, .val (.long j1), .second, .val (.int i2), .val (.int i3), .val (.ref b1), .val (.ref b18), .val (.int (Int32.ofNat n)), .unset, .unset, .unset, .unset, .unset, .unset] [(.ref b78)])) st78 ?_
    refine own_by (B := T78.setTop (mkF m 298 #[.val (.long j0), .second, .val (.long j1), .second, .val (.int i2), .val (.int i3), .val (.ref b1), .val (.ref b18), .val (.int (Int32.ofNat n)), .val (.ref b78), .unset, .unset, .unset, .unset, .unset] [])) (fun t k => XS.astore X78.here hx rfl (hb hby at_296) rfl rfl (l' := #[.val (.long j0), .second, .val (.long j1), .second, .val (.int i2), .val (.int i3), .val (.ref b1), .val (.ref b18), .val (.int (Int32.ofNat n)), .val (.ref b78), .unset, .unset, .unset, .unset, .unset]) rfl k) ?_
    refine own_by (B := T78.setTop (mkF m 300 #[.val (.long j0), .second, .val (.long j1), .second, .val (.int i2), .val (.int i3), .val (.ref b1), .val (.ref b18), .val (.int (Int32.ofNat n)), .val (.ref b78), .unset, .unset, .unset, .unset, .unset] [(.int (Int32.ofNat n))])) (fun t k => XS.iload X78.here hx rfl (hb hby at_298) rfl k) ?_
    refine own_by (B := T78.setTop (mkF m 307 #[.val (.long j0), .second, .val (.long j1), .second, .val (.int i2), .val (.int i3), .val (.ref b1), .val (.ref b18), .val (.int (Int32.ofNat n)), .val (.ref b78), .unset, .unset, .unset, .unset, .unset] [])) (fun t k => XS.ifYes X78.here hx rfl (pc0 := 300) (pc' := 307) rfl (hb hby at_300) rfl ((if0 _ _).trans (feq hnz).2) (by decide) (by decide) k) ?_
    refine own_by (B := T78.setTop (mkF m 309 #[.val (.long j0), .second, .val (.long j1), .second, .val (.int i2), .val (.int i3), .val (.ref b1), .val (.ref b18), .val (.int (Int32.ofNat n)), .val (.ref b78), .unset, .unset, .unset, .unset, .unset] [(.int i3)])) (fun t k => XS.iload X78.here hx rfl (hb hby at_307) rfl k) ?_
    refine own_by (B := T78.setTop (mkF m 311 #[.val (.long j0), .second, .val (.long j1), .second, .val (.int i2), .val (.int i3), .val (.ref b1), .val (.ref b18), .val (.int (Int32.ofNat n)), .val (.ref b78), .unset, .unset, .unset, .unset, .unset] [(.int (6 : Int32)), (.int i3)])) (fun t k => XS.bipush X78.here hx rfl (hb hby at_309) k) ?_
    refine own_by (B := T78.setTop (mkF m 312 #[.val (.long j0), .second, .val (.long j1), .second, .val (.int i2), .val (.int i3), .val (.ref b1), .val (.ref b18), .val (.int (Int32.ofNat n)), .val (.ref b78), .unset, .unset, .unset, .unset, .unset] [(.int ((i3.toUInt32 >>> ((6 : Int32) &&& 31).toUInt32).toInt32))])) (fun t k => XS.iushr X78.here hx rfl (hb hby at_311) rfl k) ?_
    refine own_by (B := T78.setTop (mkF m 314 #[.val (.long j0), .second, .val (.long j1), .second, .val (.int i2), .val (.int i3), .val (.ref b1), .val (.ref b18), .val (.int (Int32.ofNat n)), .val (.ref b78), .unset, .unset, .unset, .unset, .unset] [(.int (Int32.ofNat n)), (.int ((i3.toUInt32 >>> ((6 : Int32) &&& 31).toUInt32).toInt32))])) (fun t k => XS.iload X78.here hx rfl (hb hby at_312) rfl k) ?_
    refine own_by (B := T78.setTop (mkF m 315 #[.val (.long j0), .second, .val (.long j1), .second, .val (.int i2), .val (.int i3), .val (.ref b1), .val (.ref b18), .val (.int (Int32.ofNat n)), .val (.ref b78), .unset, .unset, .unset, .unset, .unset] [(.int (((i3.toUInt32 >>> ((6 : Int32) &&& 31).toUInt32).toInt32) % (Int32.ofNat n)))])) (fun t k => iremM (g := (mkF m 314 #[.val (.long j0), .second, .val (.long j1), .second, .val (.int i2), .val (.int i3), .val (.ref b1), .val (.ref b18), .val (.int (Int32.ofNat n)), .val (.ref b78), .unset, .unset, .unset, .unset, .unset] [(.int (Int32.ofNat n)), (.int ((i3.toUInt32 >>> ((6 : Int32) &&& 31).toUInt32).toInt32))])) X78 hx rfl (hb hby at_314) rfl hnz k) ?_
    refine own_by (B := T78.setTop (mkF m 317 #[.val (.long j0), .second, .val (.long j1), .second, .val (.int i2), .val (.int i3), .val (.ref b1), .val (.ref b18), .val (.int (Int32.ofNat n)), .val (.ref b78), .val (.int (((i3.toUInt32 >>> ((6 : Int32) &&& 31).toUInt32).toInt32) % (Int32.ofNat n))), .unset, .unset, .unset, .unset] [])) (fun t k => XS.istore X78.here hx rfl (hb hby at_315) rfl (l' := #[.val (.long j0), .second, .val (.long j1), .second, .val (.int i2), .val (.int i3), .val (.ref b1), .val (.ref b18), .val (.int (Int32.ofNat n)), .val (.ref b78), .val (.int (((i3.toUInt32 >>> ((6 : Int32) &&& 31).toUInt32).toInt32) % (Int32.ofNat n))), .unset, .unset, .unset, .unset]) rfl k) ?_
    obtain ⟨jn, hjn, hje⟩ := own_idx (x := i3) (q := 6) (k := 6) (n := n) (by decide) (by decide) (by omega) (by omega)
    rw [show (((i3.toUInt32 >>> ((6 : Int32) &&& 31).toUInt32).toInt32) % (Int32.ofNat n)) = (Int32.ofNat jn) from hje]
    refine own_by (B := T78.setTop (mkF m 319 #[.val (.long j0), .second, .val (.long j1), .second, .val (.int i2), .val (.int i3), .val (.ref b1), .val (.ref b18), .val (.int (Int32.ofNat n)), .val (.ref b78), .val (.int (Int32.ofNat jn)), .unset, .unset, .unset, .unset] [(.int (Int32.ofNat n))])) (fun t k => XS.iload X78.here hx rfl (hb hby at_317) rfl k) ?_
    refine own_by (B := T78.setTop (mkF m 326 #[.val (.long j0), .second, .val (.long j1), .second, .val (.int i2), .val (.int i3), .val (.ref b1), .val (.ref b18), .val (.int (Int32.ofNat n)), .val (.ref b78), .val (.int (Int32.ofNat jn)), .unset, .unset, .unset, .unset] [])) (fun t k => XS.ifYes X78.here hx rfl (pc0 := 319) (pc' := 326) rfl (hb hby at_319) rfl ((if0 _ _).trans (feq hnz).2) (by decide) (by decide) k) ?_
    refine own_by (B := T78.setTop (mkF m 328 #[.val (.long j0), .second, .val (.long j1), .second, .val (.int i2), .val (.int i3), .val (.ref b1), .val (.ref b18), .val (.int (Int32.ofNat n)), .val (.ref b78), .val (.int (Int32.ofNat jn)), .unset, .unset, .unset, .unset] [(.int i3)])) (fun t k => XS.iload X78.here hx rfl (hb hby at_326) rfl k) ?_
    refine own_by (B := T78.setTop (mkF m 330 #[.val (.long j0), .second, .val (.long j1), .second, .val (.int i2), .val (.int i3), .val (.ref b1), .val (.ref b18), .val (.int (Int32.ofNat n)), .val (.ref b78), .val (.int (Int32.ofNat jn)), .unset, .unset, .unset, .unset] [(.int (12 : Int32)), (.int i3)])) (fun t k => XS.bipush X78.here hx rfl (hb hby at_328) k) ?_
    refine own_by (B := T78.setTop (mkF m 331 #[.val (.long j0), .second, .val (.long j1), .second, .val (.int i2), .val (.int i3), .val (.ref b1), .val (.ref b18), .val (.int (Int32.ofNat n)), .val (.ref b78), .val (.int (Int32.ofNat jn)), .unset, .unset, .unset, .unset] [(.int ((i3.toUInt32 >>> ((12 : Int32) &&& 31).toUInt32).toInt32))])) (fun t k => XS.iushr X78.here hx rfl (hb hby at_330) rfl k) ?_
    refine own_by (B := T78.setTop (mkF m 333 #[.val (.long j0), .second, .val (.long j1), .second, .val (.int i2), .val (.int i3), .val (.ref b1), .val (.ref b18), .val (.int (Int32.ofNat n)), .val (.ref b78), .val (.int (Int32.ofNat jn)), .unset, .unset, .unset, .unset] [(.int (Int32.ofNat n)), (.int ((i3.toUInt32 >>> ((12 : Int32) &&& 31).toUInt32).toInt32))])) (fun t k => XS.iload X78.here hx rfl (hb hby at_331) rfl k) ?_
    refine own_by (B := T78.setTop (mkF m 334 #[.val (.long j0), .second, .val (.long j1), .second, .val (.int i2), .val (.int i3), .val (.ref b1), .val (.ref b18), .val (.int (Int32.ofNat n)), .val (.ref b78), .val (.int (Int32.ofNat jn)), .unset, .unset, .unset, .unset] [(.int (((i3.toUInt32 >>> ((12 : Int32) &&& 31).toUInt32).toInt32) % (Int32.ofNat n)))])) (fun t k => iremM (g := (mkF m 333 #[.val (.long j0), .second, .val (.long j1), .second, .val (.int i2), .val (.int i3), .val (.ref b1), .val (.ref b18), .val (.int (Int32.ofNat n)), .val (.ref b78), .val (.int (Int32.ofNat jn)), .unset, .unset, .unset, .unset] [(.int (Int32.ofNat n)), (.int ((i3.toUInt32 >>> ((12 : Int32) &&& 31).toUInt32).toInt32))])) X78 hx rfl (hb hby at_333) rfl hnz k) ?_
    refine own_by (B := T78.setTop (mkF m 336 #[.val (.long j0), .second, .val (.long j1), .second, .val (.int i2), .val (.int i3), .val (.ref b1), .val (.ref b18), .val (.int (Int32.ofNat n)), .val (.ref b78), .val (.int (Int32.ofNat jn)), .val (.int (((i3.toUInt32 >>> ((12 : Int32) &&& 31).toUInt32).toInt32) % (Int32.ofNat n))), .unset, .unset, .unset] [])) (fun t k => XS.istore X78.here hx rfl (hb hby at_334) rfl (l' := #[.val (.long j0), .second, .val (.long j1), .second, .val (.int i2), .val (.int i3), .val (.ref b1), .val (.ref b18), .val (.int (Int32.ofNat n)), .val (.ref b78), .val (.int (Int32.ofNat jn)), .val (.int (((i3.toUInt32 >>> ((12 : Int32) &&& 31).toUInt32).toInt32) % (Int32.ofNat n))), .unset, .unset, .unset]) rfl k) ?_
    obtain ⟨mn, hmn, hme⟩ := own_idx (x := i3) (q := 12) (k := 12) (n := n) (by decide) (by decide) (by omega) (by omega)
    rw [show (((i3.toUInt32 >>> ((12 : Int32) &&& 31).toUInt32).toInt32) % (Int32.ofNat n)) = (Int32.ofNat mn) from hme]
    refine own_by (B := T78.setTop (mkF m 338 #[.val (.long j0), .second, .val (.long j1), .second, .val (.int i2), .val (.int i3), .val (.ref b1), .val (.ref b18), .val (.int (Int32.ofNat n)), .val (.ref b78), .val (.int (Int32.ofNat jn)), .val (.int (Int32.ofNat mn)), .unset, .unset, .unset] [(.int (Int32.ofNat n))])) (fun t k => XS.iload X78.here hx rfl (hb hby at_336) rfl k) ?_
    refine own_by (B := T78.setTop (mkF m 341 #[.val (.long j0), .second, .val (.long j1), .second, .val (.int i2), .val (.int i3), .val (.ref b1), .val (.ref b18), .val (.int (Int32.ofNat n)), .val (.ref b78), .val (.int (Int32.ofNat jn)), .val (.int (Int32.ofNat mn)), .unset, .unset, .unset] [])) (fun t k => XS.ifNo X78.here hx rfl (hb hby at_338) rfl ((if0 _ _).trans (tlt hpos).2.2.2) k) ?_
    refine own_by (B := T78.setTop (mkF m 343 #[.val (.long j0), .second, .val (.long j1), .second, .val (.int i2), .val (.int i3), .val (.ref b1), .val (.ref b18), .val (.int (Int32.ofNat n)), .val (.ref b78), .val (.int (Int32.ofNat jn)), .val (.int (Int32.ofNat mn)), .unset, .unset, .unset] [(.ref b78)])) (fun t k => XS.aload X78.here hx rfl (hb hby at_341) rfl rfl k) ?_
    refine own_by (B := T78.setTop (mkF m 345 #[.val (.long j0), .second, .val (.long j1), .second, .val (.int i2), .val (.int i3), .val (.ref b1), .val (.ref b18), .val (.int (Int32.ofNat n)), .val (.ref b78), .val (.int (Int32.ofNat jn)), .val (.int (Int32.ofNat mn)), .unset, .unset, .unset] [(.int (Int32.ofNat jn)), (.ref b78)])) (fun t k => XS.iload X78.here hx rfl (hb hby at_343) rfl k) ?_
    refine own_by (B := T78.setTop (mkF m 347 #[.val (.long j0), .second, .val (.long j1), .second, .val (.int i2), .val (.int i3), .val (.ref b1), .val (.ref b18), .val (.int (Int32.ofNat n)), .val (.ref b78), .val (.int (Int32.ofNat jn)), .val (.int (Int32.ofNat mn)), .unset, .unset, .unset] [(.int i2), (.int (Int32.ofNat jn)), (.ref b78)])) (fun t k => XS.iload X78.here hx rfl (hb hby at_345) rfl k) ?_
    refine own_by (B := T78.setTop (mkF m 349 #[.val (.long j0), .second, .val (.long j1), .second, .val (.int i2), .val (.int i3), .val (.ref b1), .val (.ref b18), .val (.int (Int32.ofNat n)), .val (.ref b78), .val (.int (Int32.ofNat jn)), .val (.int (Int32.ofNat mn)), .unset, .unset, .unset] [(.int (16 : Int32)), (.int i2), (.int (Int32.ofNat jn)), (.ref b78)])) (fun t k => XS.bipush X78.here hx rfl (hb hby at_347) k) ?_
    refine own_by (B := T78.setTop (mkF m 350 #[.val (.long j0), .second, .val (.long j1), .second, .val (.int i2), .val (.int i3), .val (.ref b1), .val (.ref b18), .val (.int (Int32.ofNat n)), .val (.ref b78), .val (.int (Int32.ofNat jn)), .val (.int (Int32.ofNat mn)), .unset, .unset, .unset] [(.int ((i2.toUInt32 >>> ((16 : Int32) &&& 31).toUInt32).toInt32)), (.int (Int32.ofNat jn)), (.ref b78)])) (fun t k => XS.iushr X78.here hx rfl (hb hby at_349) rfl k) ?_
    refine own_by (B := T78.setTop (mkF m 351 #[.val (.long j0), .second, .val (.long j1), .second, .val (.int i2), .val (.int i3), .val (.ref b1), .val (.ref b18), .val (.int (Int32.ofNat n)), .val (.ref b78), .val (.int (Int32.ofNat jn)), .val (.int (Int32.ofNat mn)), .unset, .unset, .unset] [(.int (((i2.toUInt32 >>> ((16 : Int32) &&& 31).toUInt32).toInt32).toInt8.toInt32)), (.int (Int32.ofNat jn)), (.ref b78)])) (fun t k => XS.i2b X78.here hx rfl (hb hby at_350) rfl k) ?_
    obtain ⟨cl79, Ar79, hin79, -⟩ := V_b78.at (j := (Int32.ofNat jn)) (own_in (by omega) (by omega))
    obtain ⟨T79, h79, X79, e79, W79, st79⟩ := stB X78 hx hZ e78 Ar79 (j := (Int32.ofNat jn)) hin79 (g := (mkF m 351 #[.val (.long j0), .second, .val (.long j1), .second, .val (.int i2), .val (.int i3), .val (.ref b1), .val (.ref b18), .val (.int (Int32.ofNat n)), .val (.ref b78), .val (.int (Int32.ofNat jn)), .val (.int (Int32.ofNat mn)), .unset, .unset, .unset] [(.int (((i2.toUInt32 >>> ((16 : Int32) &&& 31).toUInt32).toInt32).toInt8.toInt32)), (.int (Int32.ofNat jn)), (.ref b78)])) rfl rfl (hb hby at_351)
    have V_wk := V_wk.other W79 ne_wk_b78
    have S_KEY := S_KEY.wr W79
    have V_b1 := V_b1.other W79 ne_b1_b78
    have V_b18 := V_b18.other W79 ne_b18_b78
    have V_b78 := V_b78.set W79
    have Zs : n0 ≤ h79.size := by rw [W79.size]; exact Zs
    have Nf := Fr.snoc X79 Nf g_b78
    obtain ⟨LhX79, X79, Nf⟩ := own_hide X79 Nf
    refine own_by (B := T79.setTop (mkF m 352 #[.val (.long j0), .second, .val (.long j1), .second, .val (.int i2), .val (.int i3), .val (.ref b1), .val (.ref b18), .val (.int (Int32.ofNat n)), .val (.ref b78), .val (.int (Int32.ofNat jn)), .val (.int (Int32.ofNat mn)), .unset, .unset, .unset] [])) st79 ?_
    obtain ⟨fq, V_b78, hfq⟩ : ∃ f, own_Arf Z h79 b78 .byte (Int32.ofNat n) f ∧ ∀ t, t < n → ∃ x, f t = .int x := ⟨_, V_b78, fun t ht => by
      by_cases q : t = (Int32.ofNat jn).toNatClampNeg
      · exact ⟨_, if_pos q⟩
      · exact ⟨_, if_neg q⟩⟩
    refine own_by (B := T79.setTop (mkF m 354 #[.val (.long j0), .second, .val (.long j1), .second, .val (.int i2), .val (.int i3), .val (.ref b1), .val (.ref b18), .val (.int (Int32.ofNat n)), .val (.ref b78), .val (.int (Int32.ofNat jn)), .val (.int (Int32.ofNat mn)), .unset, .unset, .unset] [(.ref b18)])) (fun t k => XS.aload X79.here hx rfl (hb hby at_352) rfl rfl k) ?_
    obtain ⟨_, _, ⟨T80, L80, k80, n80⟩, -, X80, ⟨Lc80, hQ80, l80, y80, z80⟩, st80⟩ := Jvm.LawKit.callS X79 hx (y := (⟨"com/example/palaver/palaver/protocol/FlapLogin", "roast", "([B)[B"⟩ : MethodName)) hown (mvT hZ (hw _ (List.mem_of_getElem? (i := 1) rfl))) (mvT hZ (hw _ (List.mem_of_getElem? (i := 2) rfl))) (mvT hZ (hw _ (List.mem_of_getElem? (i := 3) rfl))) (mvT hZ (hw _ (List.mem_of_getElem? (i := 4) rfl))) (by decide) (backOf (W := 0) (rmR l Z a0 hw [] b18 wk 18 fp h79 n0 Zs V_b18 V_wk S_KEY (by omega) hfp) hZ (hw _ (List.mem_of_getElem? (i := 4) rfl)) (hw _ (List.mem_of_getElem? (i := 3) rfl)) (by decide) (by decide)) (g := (mkF m 354 #[.val (.long j0), .second, .val (.long j1), .second, .val (.int i2), .val (.int i3), .val (.ref b1), .val (.ref b18), .val (.int (Int32.ofNat n)), .val (.ref b78), .val (.int (Int32.ofNat jn)), .val (.int (Int32.ofNat mn)), .unset, .unset, .unset] [(.ref b18)])) rfl (by rw [hml]; rfl) (argsL := [(.ref b18)]) (rest := []) (lenOf own_pd0 rfl) rfl (by show 2 * 0 + _ ≤ _; exact Nat.le_of_eq rfl) (hb hby at_354) (fun _ _ => ⟨rfl, e79, (by decide : 3 + 1 ≤ _), (by decide : 97 + 63 ≤ _)⟩)
    dsimp only [Pt.U, Pt.locs, Pt.cells, Pt.slots] at X80 l80 y80 z80 st80 hQ80
    subst l80 y80 z80
    obtain ⟨rfl, Nq80, Kc80, Vc80⟩ := hQ80
    have Nf := Fr.app Nf Nq80
    obtain ⟨LhX80, X80, Nf⟩ := own_hide X80 Nf
    obtain ⟨b80, gq80⟩ : ∃ z, z = h79.size := ⟨_, rfl⟩
    rw [← gq80] at Vc80 st80
    have ne_wk_b80 : wk ≠ b80 := Nat.ne_of_lt (Nat.lt_of_lt_of_le V_wk.lt (Nat.le_of_eq gq80.symm))
    have ne_b1_b80 : b1 ≠ b80 := Nat.ne_of_lt (Nat.lt_of_lt_of_le V_b1.lt (Nat.le_of_eq gq80.symm))
    have ne_b18_b80 : b18 ≠ b80 := Nat.ne_of_lt (Nat.lt_of_lt_of_le V_b18.lt (Nat.le_of_eq gq80.symm))
    have ne_b78_b80 : b78 ≠ b80 := Nat.ne_of_lt (Nat.lt_of_lt_of_le V_b78.lt (Nat.le_of_eq gq80.symm))
    have g_b80 : n0 ≤ b80 := Nat.le_trans Zs (Nat.le_of_eq gq80.symm)
    have V_wk := V_wk.keep Kc80 nin0
    have S_KEY := own_sta_keep S_KEY Kc80
    have V_b1 := V_b1.keep Kc80 nin0
    have V_b18 := V_b18.keep Kc80 nin0
    have V_b78 := V_b78.keep Kc80 nin0
    have Zs := Nat.le_trans Zs Kc80.1
    have V_b80 := Vc80
    refine own_by (B := T80.setTop (mkF m 357 #[.val (.long j0), .second, .val (.long j1), .second, .val (.int i2), .val (.int i3), .val (.ref b1), .val (.ref b18), .val (.int (Int32.ofNat n)), .val (.ref b78), .val (.int (Int32.ofNat jn)), .val (.int (Int32.ofNat mn)), .unset, .unset, .unset] [(.ref b80)])) st80 ?_
    refine own_by (B := T80.setTop (mkF m 359 #[.val (.long j0), .second, .val (.long j1), .second, .val (.int i2), .val (.int i3), .val (.ref b1), .val (.ref b18), .val (.int (Int32.ofNat n)), .val (.ref b78), .val (.int (Int32.ofNat jn)), .val (.int (Int32.ofNat mn)), .val (.ref b80), .unset, .unset] [])) (fun t k => XS.astore X80.here hx rfl (hb hby at_357) rfl rfl (l' := #[.val (.long j0), .second, .val (.long j1), .second, .val (.int i2), .val (.int i3), .val (.ref b1), .val (.ref b18), .val (.int (Int32.ofNat n)), .val (.ref b78), .val (.int (Int32.ofNat jn)), .val (.int (Int32.ofNat mn)), .val (.ref b80), .unset, .unset]) rfl k) ?_
    refine own_by (B := T80.setTop (mkF m 361 #[.val (.long j0), .second, .val (.long j1), .second, .val (.int i2), .val (.int i3), .val (.ref b1), .val (.ref b18), .val (.int (Int32.ofNat n)), .val (.ref b78), .val (.int (Int32.ofNat jn)), .val (.int (Int32.ofNat mn)), .val (.ref b80), .unset, .unset] [(.ref b78)])) (fun t k => XS.aload X80.here hx rfl (hb hby at_359) rfl rfl k) ?_
    obtain ⟨_, _, ⟨T81, L81, k81, n81⟩, -, X81, ⟨Lc81, hQ81, l81, y81, z81⟩, st81⟩ := Jvm.LawKit.callS X80 hx (y := (⟨"com/example/palaver/palaver/protocol/FlapLogin", "roast", "([B)[B"⟩ : MethodName)) hown (mvT hZ (hw _ (List.mem_of_getElem? (i := 1) rfl))) (mvT hZ (hw _ (List.mem_of_getElem? (i := 2) rfl))) (mvT hZ (hw _ (List.mem_of_getElem? (i := 3) rfl))) (mvT hZ (hw _ (List.mem_of_getElem? (i := 4) rfl))) (by decide) (backOf (W := 0) (rmR l Z a0 hw [] b78 wk n fq T80.heap n0 Zs V_b78 V_wk S_KEY (by omega) hfq) hZ (hw _ (List.mem_of_getElem? (i := 4) rfl)) (hw _ (List.mem_of_getElem? (i := 3) rfl)) (by decide) (by decide)) (g := (mkF m 361 #[.val (.long j0), .second, .val (.long j1), .second, .val (.int i2), .val (.int i3), .val (.ref b1), .val (.ref b18), .val (.int (Int32.ofNat n)), .val (.ref b78), .val (.int (Int32.ofNat jn)), .val (.int (Int32.ofNat mn)), .val (.ref b80), .unset, .unset] [(.ref b78)])) rfl (by rw [hml]; rfl) (argsL := [(.ref b78)]) (rest := []) (lenOf own_pd0 rfl) rfl (by show 2 * 0 + _ ≤ _; exact Nat.le_of_eq rfl) (hb hby at_361) (fun _ _ => ⟨rfl, rfl, (by decide : 4 + 1 ≤ _), (by decide : 160 + 63 ≤ _)⟩)
    dsimp only [Pt.U, Pt.locs, Pt.cells, Pt.slots] at X81 l81 y81 z81 st81 hQ81
    subst l81 y81 z81
    obtain ⟨rfl, Nq81, Kc81, Vc81⟩ := hQ81
    have Nf := Fr.app Nf Nq81
    obtain ⟨LhX81, X81, Nf⟩ := own_hide X81 Nf
    obtain ⟨b81, gq81⟩ : ∃ z, z = T80.heap.size := ⟨_, rfl⟩
    rw [← gq81] at Vc81 st81
    have ne_wk_b81 : wk ≠ b81 := Nat.ne_of_lt (Nat.lt_of_lt_of_le V_wk.lt (Nat.le_of_eq gq81.symm))
    have ne_b1_b81 : b1 ≠ b81 := Nat.ne_of_lt (Nat.lt_of_lt_of_le V_b1.lt (Nat.le_of_eq gq81.symm))
    have ne_b18_b81 : b18 ≠ b81 := Nat.ne_of_lt (Nat.lt_of_lt_of_le V_b18.lt (Nat.le_of_eq gq81.symm))
    have ne_b78_b81 : b78 ≠ b81 := Nat.ne_of_lt (Nat.lt_of_lt_of_le V_b78.lt (Nat.le_of_eq gq81.symm))
    have ne_b80_b81 : b80 ≠ b81 := Nat.ne_of_lt (Nat.lt_of_lt_of_le V_b80.lt (Nat.le_of_eq gq81.symm))
    have g_b81 : n0 ≤ b81 := Nat.le_trans Zs (Nat.le_of_eq gq81.symm)
    have V_wk := V_wk.keep Kc81 nin0
    have S_KEY := own_sta_keep S_KEY Kc81
    have V_b1 := V_b1.keep Kc81 nin0
    have V_b18 := V_b18.keep Kc81 nin0
    have V_b78 := V_b78.keep Kc81 nin0
    have V_b80 := V_b80.keep Kc81 nin0
    have Zs := Nat.le_trans Zs Kc81.1
    have V_b81 := Vc81
    refine own_by (B := T81.setTop (mkF m 364 #[.val (.long j0), .second, .val (.long j1), .second, .val (.int i2), .val (.int i3), .val (.ref b1), .val (.ref b18), .val (.int (Int32.ofNat n)), .val (.ref b78), .val (.int (Int32.ofNat jn)), .val (.int (Int32.ofNat mn)), .val (.ref b80), .unset, .unset] [(.ref b81)])) st81 ?_
    refine own_by (B := T81.setTop (mkF m 366 #[.val (.long j0), .second, .val (.long j1), .second, .val (.int i2), .val (.int i3), .val (.ref b1), .val (.ref b18), .val (.int (Int32.ofNat n)), .val (.ref b78), .val (.int (Int32.ofNat jn)), .val (.int (Int32.ofNat mn)), .val (.ref b80), .val (.ref b81), .unset] [])) (fun t k => XS.astore X81.here hx rfl (hb hby at_364) rfl rfl (l' := #[.val (.long j0), .second, .val (.long j1), .second, .val (.int i2), .val (.int i3), .val (.ref b1), .val (.ref b18), .val (.int (Int32.ofNat n)), .val (.ref b78), .val (.int (Int32.ofNat jn)), .val (.int (Int32.ofNat mn)), .val (.ref b80), .val (.ref b81), .unset]) rfl k) ?_
    refine own_by (B := T81.setTop (mkF m 368 #[.val (.long j0), .second, .val (.long j1), .second, .val (.int i2), .val (.int i3), .val (.ref b1), .val (.ref b18), .val (.int (Int32.ofNat n)), .val (.ref b78), .val (.int (Int32.ofNat jn)), .val (.int (Int32.ofNat mn)), .val (.ref b80), .val (.ref b81), .unset] [(.ref b80)])) (fun t k => XS.aload X81.here hx rfl (hb hby at_366) rfl rfl k) ?_
    obtain ⟨cl82, Ar82, Sz82, Ng82, -⟩ := id V_b80
    refine own_by (B := T81.setTop (mkF m 369 #[.val (.long j0), .second, .val (.long j1), .second, .val (.int i2), .val (.int i3), .val (.ref b1), .val (.ref b18), .val (.int (Int32.ofNat n)), .val (.ref b78), .val (.int (Int32.ofNat jn)), .val (.int (Int32.ofNat mn)), .val (.ref b80), .val (.ref b81), .unset] [(.int (18 : Int32))])) (fun t k => X81.arraylength hx Ar82.1 (State.isArrayOf_alike hZ.alike Ar82.2.1) (g := (mkF m 368 #[.val (.long j0), .second, .val (.long j1), .second, .val (.int i2), .val (.int i3), .val (.ref b1), .val (.ref b18), .val (.int (Int32.ofNat n)), .val (.ref b78), .val (.int (Int32.ofNat jn)), .val (.int (Int32.ofNat mn)), .val (.ref b80), .val (.ref b81), .unset] [(.ref b80)])) rfl rfl (hb hby at_368) _ (by rw [len_of Sz82 Ng82]; exact k)) ?_
    refine own_by (B := T81.setTop (mkF m 371 #[.val (.long j0), .second, .val (.long j1), .second, .val (.int i2), .val (.int i3), .val (.ref b1), .val (.ref b18), .val (.int (Int32.ofNat n)), .val (.ref b78), .val (.int (Int32.ofNat jn)), .val (.int (Int32.ofNat mn)), .val (.ref b80), .val (.ref b81), .unset] [(.int (18 : Int32)), (.int (18 : Int32))])) (fun t k => XS.bipush X81.here hx rfl (hb hby at_369) k) ?_
    refine own_by (B := T81.setTop (mkF m 374 #[.val (.long j0), .second, .val (.long j1), .second, .val (.int i2), .val (.int i3), .val (.ref b1), .val (.ref b18), .val (.int (Int32.ofNat n)), .val (.ref b78), .val (.int (Int32.ofNat jn)), .val (.int (Int32.ofNat mn)), .val (.ref b80), .val (.ref b81), .unset] [])) (fun t k => XS.icmpNo X81.here hx rfl (hb hby at_371) rfl (teq (by decide)).2 k) ?_
    refine own_by (B := T81.setTop (mkF m 376 #[.val (.long j0), .second, .val (.long j1), .second, .val (.int i2), .val (.int i3), .val (.ref b1), .val (.ref b18), .val (.int (Int32.ofNat n)), .val (.ref b78), .val (.int (Int32.ofNat jn)), .val (.int (Int32.ofNat mn)), .val (.ref b80), .val (.ref b81), .unset] [(.ref b81)])) (fun t k => XS.aload X81.here hx rfl (hb hby at_374) rfl rfl k) ?_
    obtain ⟨cl83, Ar83, Sz83, Ng83, -⟩ := id V_b81
    refine own_by (B := T81.setTop (mkF m 377 #[.val (.long j0), .second, .val (.long j1), .second, .val (.int i2), .val (.int i3), .val (.ref b1), .val (.ref b18), .val (.int (Int32.ofNat n)), .val (.ref b78), .val (.int (Int32.ofNat jn)), .val (.int (Int32.ofNat mn)), .val (.ref b80), .val (.ref b81), .unset] [(.int (Int32.ofNat n))])) (fun t k => X81.arraylength hx Ar83.1 (State.isArrayOf_alike hZ.alike Ar83.2.1) (g := (mkF m 376 #[.val (.long j0), .second, .val (.long j1), .second, .val (.int i2), .val (.int i3), .val (.ref b1), .val (.ref b18), .val (.int (Int32.ofNat n)), .val (.ref b78), .val (.int (Int32.ofNat jn)), .val (.int (Int32.ofNat mn)), .val (.ref b80), .val (.ref b81), .unset] [(.ref b81)])) rfl rfl (hb hby at_376) _ (by rw [len_of Sz83 Ng83]; exact k)) ?_
    refine own_by (B := T81.setTop (mkF m 379 #[.val (.long j0), .second, .val (.long j1), .second, .val (.int i2), .val (.int i3), .val (.ref b1), .val (.ref b18), .val (.int (Int32.ofNat n)), .val (.ref b78), .val (.int (Int32.ofNat jn)), .val (.int (Int32.ofNat mn)), .val (.ref b80), .val (.ref b81), .unset] [(.int (Int32.ofNat n)), (.int (Int32.ofNat n))])) (fun t k => XS.iload X81.here hx rfl (hb hby at_377) rfl k) ?_
    refine own_by (B := T81.setTop (mkF m 384 #[.val (.long j0), .second, .val (.long j1), .second, .val (.int i2), .val (.int i3), .val (.ref b1), .val (.ref b18), .val (.int (Int32.ofNat n)), .val (.ref b78), .val (.int (Int32.ofNat jn)), .val (.int (Int32.ofNat mn)), .val (.ref b80), .val (.ref b81), .unset] [])) (fun t k => XS.icmpYes X81.here hx rfl (pc0 := 379) (pc' := 384) rfl (hb hby at_379) rfl (teq rfl).1 (by decide) (by decide) k) ?_
    refine own_by (B := T81.setTop (mkF m 386 #[.val (.long j0), .second, .val (.long j1), .second, .val (.int i2), .val (.int i3), .val (.ref b1), .val (.ref b18), .val (.int (Int32.ofNat n)), .val (.ref b78), .val (.int (Int32.ofNat jn)), .val (.int (Int32.ofNat mn)), .val (.ref b80), .val (.ref b81), .unset] [(.ref b18)])) (fun t k => XS.aload X81.here hx rfl (hb hby at_384) rfl rfl k) ?_
    refine own_by (B := T81.setTop (mkF m 388 #[.val (.long j0), .second, .val (.long j1), .second, .val (.int i2), .val (.int i3), .val (.ref b1), .val (.ref b18), .val (.int (Int32.ofNat n)), .val (.ref b78), .val (.int (Int32.ofNat jn)), .val (.int (Int32.ofNat mn)), .val (.ref b80), .val (.ref b81), .unset] [(.ref b80), (.ref b18)])) (fun t k => XS.aload X81.here hx rfl (hb hby at_386) rfl rfl k) ?_
    refine own_by (B := T81.setTop (mkF m 390 #[.val (.long j0), .second, .val (.long j1), .second, .val (.int i2), .val (.int i3), .val (.ref b1), .val (.ref b18), .val (.int (Int32.ofNat n)), .val (.ref b78), .val (.int (Int32.ofNat jn)), .val (.int (Int32.ofNat mn)), .val (.ref b80), .val (.ref b81), .unset] [(.ref b1), (.ref b80), (.ref b18)])) (fun t k => XS.aload X81.here hx rfl (hb hby at_388) rfl rfl k) ?_
    refine own_by (B := T81.setTop (mkF m 391 #[.val (.long j0), .second, .val (.long j1), .second, .val (.int i2), .val (.int i3), .val (.ref b1), .val (.ref b18), .val (.int (Int32.ofNat n)), .val (.ref b78), .val (.int (Int32.ofNat jn)), .val (.int (Int32.ofNat mn)), .val (.ref b80), .val (.ref b81), .unset] [(.int (0 : Int32)), (.ref b1), (.ref b80), (.ref b18)])) (fun t k => XS.iconst X81.here hx rfl (hb hby at_390) k) ?_
    obtain ⟨xv84, hxv84⟩ := hfp 0 (by omega)
    obtain ⟨_, _, ⟨T85, L85, k85, n85⟩, -, X85, ⟨Lc85, hQ85, l85, y85, z85⟩, st85⟩ := Jvm.LawKit.callS X81 hx (y := (⟨"com/example/palaver/palaver/protocol/FlapLoginRoastPinLaw", "at", "([B[B[BI)Z"⟩ : MethodName)) hown (mvT hZ (hw _ (List.mem_of_getElem? (i := 7) rfl))) (mvT hZ (hw _ (List.mem_of_getElem? (i := 8) rfl))) (mvT hZ (hw _ (List.mem_of_getElem? (i := 9) rfl))) (mvT hZ (hw _ (List.mem_of_getElem? (i := 10) rfl))) (by decide) (backOf (W := 0) (rmA l Z a0 hw [] b18 b80 b1 0 18 fp (own_out fp 18) xv84 T81.heap n0 Zs V_b18 V_b80 V_b1 (by omega) (by omega) hxv84 (own_outv (by omega) hxv84)) hZ (hw _ (List.mem_of_getElem? (i := 10) rfl)) (hw _ (List.mem_of_getElem? (i := 9) rfl)) (by decide) (by decide)) (g := (mkF m 391 #[.val (.long j0), .second, .val (.long j1), .second, .val (.int i2), .val (.int i3), .val (.ref b1), .val (.ref b18), .val (.int (Int32.ofNat n)), .val (.ref b78), .val (.int (Int32.ofNat jn)), .val (.int (Int32.ofNat mn)), .val (.ref b80), .val (.ref b81), .unset] [(.int (0 : Int32)), (.ref b1), (.ref b80), (.ref b18)])) rfl (by rw [hml]; rfl) (argsL := [(.ref b18), (.ref b80), (.ref b1), (.int (0 : Int32))]) (rest := []) (lenOf own_pd1 rfl) rfl (by show 2 * 0 + _ ≤ _; exact Nat.le_of_eq rfl) (hb hby at_391) (fun _ _ => ⟨rfl, rfl, (by decide : 5 + 0 ≤ _), (by decide : 223 + 0 ≤ _)⟩)
    dsimp only [Pt.U, Pt.locs, Pt.cells, Pt.slots] at X85 l85 y85 z85 st85 hQ85
    subst l85 y85 z85
    obtain ⟨rfl, Nq85, hp85⟩ := hQ85
    have Nf := Fr.app Nf Nq85
    obtain ⟨LhX85, X85, Nf⟩ := own_hide X85 Nf
    have ec85 : T85.heap = T81.heap := hp85
    refine own_by (B := T85.setTop (mkF m 394 #[.val (.long j0), .second, .val (.long j1), .second, .val (.int i2), .val (.int i3), .val (.ref b1), .val (.ref b18), .val (.int (Int32.ofNat n)), .val (.ref b78), .val (.int (Int32.ofNat jn)), .val (.int (Int32.ofNat mn)), .val (.ref b80), .val (.ref b81), .unset] [(.int (1 : Int32))])) st85 ?_
    refine own_by (B := T85.setTop (mkF m 397 #[.val (.long j0), .second, .val (.long j1), .second, .val (.int i2), .val (.int i3), .val (.ref b1), .val (.ref b18), .val (.int (Int32.ofNat n)), .val (.ref b78), .val (.int (Int32.ofNat jn)), .val (.int (Int32.ofNat mn)), .val (.ref b80), .val (.ref b81), .unset] [])) (fun t k => XS.ifNo X85.here hx rfl (hb hby at_394) rfl ((if0 _ _).trans (feq (by decide)).1) k) ?_
    refine own_by (B := T85.setTop (mkF m 399 #[.val (.long j0), .second, .val (.long j1), .second, .val (.int i2), .val (.int i3), .val (.ref b1), .val (.ref b18), .val (.int (Int32.ofNat n)), .val (.ref b78), .val (.int (Int32.ofNat jn)), .val (.int (Int32.ofNat mn)), .val (.ref b80), .val (.ref b81), .unset] [(.ref b18)])) (fun t k => XS.aload X85.here hx rfl (hb hby at_397) rfl rfl k) ?_
    refine own_by (B := T85.setTop (mkF m 401 #[.val (.long j0), .second, .val (.long j1), .second, .val (.int i2), .val (.int i3), .val (.ref b1), .val (.ref b18), .val (.int (Int32.ofNat n)), .val (.ref b78), .val (.int (Int32.ofNat jn)), .val (.int (Int32.ofNat mn)), .val (.ref b80), .val (.ref b81), .unset] [(.ref b80), (.ref b18)])) (fun t k => XS.aload X85.here hx rfl (hb hby at_399) rfl rfl k) ?_
    refine own_by (B := T85.setTop (mkF m 403 #[.val (.long j0), .second, .val (.long j1), .second, .val (.int i2), .val (.int i3), .val (.ref b1), .val (.ref b18), .val (.int (Int32.ofNat n)), .val (.ref b78), .val (.int (Int32.ofNat jn)), .val (.int (Int32.ofNat mn)), .val (.ref b80), .val (.ref b81), .unset] [(.ref b1), (.ref b80), (.ref b18)])) (fun t k => XS.aload X85.here hx rfl (hb hby at_401) rfl rfl k) ?_
    refine own_by (B := T85.setTop (mkF m 404 #[.val (.long j0), .second, .val (.long j1), .second, .val (.int i2), .val (.int i3), .val (.ref b1), .val (.ref b18), .val (.int (Int32.ofNat n)), .val (.ref b78), .val (.int (Int32.ofNat jn)), .val (.int (Int32.ofNat mn)), .val (.ref b80), .val (.ref b81), .unset] [(.int (1 : Int32)), (.ref b1), (.ref b80), (.ref b18)])) (fun t k => XS.iconst X85.here hx rfl (hb hby at_403) k) ?_
    obtain ⟨xv86, hxv86⟩ := hfp 1 (by omega)
    obtain ⟨_, _, ⟨T87, L87, k87, n87⟩, -, X87, ⟨Lc87, hQ87, l87, y87, z87⟩, st87⟩ := Jvm.LawKit.callS X85 hx (y := (⟨"com/example/palaver/palaver/protocol/FlapLoginRoastPinLaw", "at", "([B[B[BI)Z"⟩ : MethodName)) hown (mvT hZ (hw _ (List.mem_of_getElem? (i := 7) rfl))) (mvT hZ (hw _ (List.mem_of_getElem? (i := 8) rfl))) (mvT hZ (hw _ (List.mem_of_getElem? (i := 9) rfl))) (mvT hZ (hw _ (List.mem_of_getElem? (i := 10) rfl))) (by decide) (backOf (W := 0) (rmA l Z a0 hw [] b18 b80 b1 1 18 fp (own_out fp 18) xv86 T81.heap n0 Zs V_b18 V_b80 V_b1 (by omega) (by omega) hxv86 (own_outv (by omega) hxv86)) hZ (hw _ (List.mem_of_getElem? (i := 10) rfl)) (hw _ (List.mem_of_getElem? (i := 9) rfl)) (by decide) (by decide)) (g := (mkF m 404 #[.val (.long j0), .second, .val (.long j1), .second, .val (.int i2), .val (.int i3), .val (.ref b1), .val (.ref b18), .val (.int (Int32.ofNat n)), .val (.ref b78), .val (.int (Int32.ofNat jn)), .val (.int (Int32.ofNat mn)), .val (.ref b80), .val (.ref b81), .unset] [(.int (1 : Int32)), (.ref b1), (.ref b80), (.ref b18)])) rfl (by rw [hml]; rfl) (argsL := [(.ref b18), (.ref b80), (.ref b1), (.int (1 : Int32))]) (rest := []) (lenOf own_pd1 rfl) rfl (by show 2 * 0 + _ ≤ _; exact Nat.le_of_eq rfl) (hb hby at_404) (fun _ _ => ⟨rfl, ec85, (by decide : 5 + 0 ≤ _), (by decide : 223 + 0 ≤ _)⟩)
    dsimp only [Pt.U, Pt.locs, Pt.cells, Pt.slots] at X87 l87 y87 z87 st87 hQ87
    subst l87 y87 z87
    obtain ⟨rfl, Nq87, hp87⟩ := hQ87
    have Nf := Fr.app Nf Nq87
    obtain ⟨LhX87, X87, Nf⟩ := own_hide X87 Nf
    have ec87 : T87.heap = T81.heap := hp87
    refine own_by (B := T87.setTop (mkF m 407 #[.val (.long j0), .second, .val (.long j1), .second, .val (.int i2), .val (.int i3), .val (.ref b1), .val (.ref b18), .val (.int (Int32.ofNat n)), .val (.ref b78), .val (.int (Int32.ofNat jn)), .val (.int (Int32.ofNat mn)), .val (.ref b80), .val (.ref b81), .unset] [(.int (1 : Int32))])) st87 ?_
    refine own_by (B := T87.setTop (mkF m 410 #[.val (.long j0), .second, .val (.long j1), .second, .val (.int i2), .val (.int i3), .val (.ref b1), .val (.ref b18), .val (.int (Int32.ofNat n)), .val (.ref b78), .val (.int (Int32.ofNat jn)), .val (.int (Int32.ofNat mn)), .val (.ref b80), .val (.ref b81), .unset] [])) (fun t k => XS.ifNo X87.here hx rfl (hb hby at_407) rfl ((if0 _ _).trans (feq (by decide)).1) k) ?_
    refine own_by (B := T87.setTop (mkF m 412 #[.val (.long j0), .second, .val (.long j1), .second, .val (.int i2), .val (.int i3), .val (.ref b1), .val (.ref b18), .val (.int (Int32.ofNat n)), .val (.ref b78), .val (.int (Int32.ofNat jn)), .val (.int (Int32.ofNat mn)), .val (.ref b80), .val (.ref b81), .unset] [(.ref b18)])) (fun t k => XS.aload X87.here hx rfl (hb hby at_410) rfl rfl k) ?_
    refine own_by (B := T87.setTop (mkF m 414 #[.val (.long j0), .second, .val (.long j1), .second, .val (.int i2), .val (.int i3), .val (.ref b1), .val (.ref b18), .val (.int (Int32.ofNat n)), .val (.ref b78), .val (.int (Int32.ofNat jn)), .val (.int (Int32.ofNat mn)), .val (.ref b80), .val (.ref b81), .unset] [(.ref b80), (.ref b18)])) (fun t k => XS.aload X87.here hx rfl (hb hby at_412) rfl rfl k) ?_
    refine own_by (B := T87.setTop (mkF m 416 #[.val (.long j0), .second, .val (.long j1), .second, .val (.int i2), .val (.int i3), .val (.ref b1), .val (.ref b18), .val (.int (Int32.ofNat n)), .val (.ref b78), .val (.int (Int32.ofNat jn)), .val (.int (Int32.ofNat mn)), .val (.ref b80), .val (.ref b81), .unset] [(.ref b1), (.ref b80), (.ref b18)])) (fun t k => XS.aload X87.here hx rfl (hb hby at_414) rfl rfl k) ?_
    refine own_by (B := T87.setTop (mkF m 417 #[.val (.long j0), .second, .val (.long j1), .second, .val (.int i2), .val (.int i3), .val (.ref b1), .val (.ref b18), .val (.int (Int32.ofNat n)), .val (.ref b78), .val (.int (Int32.ofNat jn)), .val (.int (Int32.ofNat mn)), .val (.ref b80), .val (.ref b81), .unset] [(.int (2 : Int32)), (.ref b1), (.ref b80), (.ref b18)])) (fun t k => XS.iconst X87.here hx rfl (hb hby at_416) k) ?_
    obtain ⟨xv88, hxv88⟩ := hfp 2 (by omega)
    obtain ⟨_, _, ⟨T89, L89, k89, n89⟩, -, X89, ⟨Lc89, hQ89, l89, y89, z89⟩, st89⟩ := Jvm.LawKit.callS X87 hx (y := (⟨"com/example/palaver/palaver/protocol/FlapLoginRoastPinLaw", "at", "([B[B[BI)Z"⟩ : MethodName)) hown (mvT hZ (hw _ (List.mem_of_getElem? (i := 7) rfl))) (mvT hZ (hw _ (List.mem_of_getElem? (i := 8) rfl))) (mvT hZ (hw _ (List.mem_of_getElem? (i := 9) rfl))) (mvT hZ (hw _ (List.mem_of_getElem? (i := 10) rfl))) (by decide) (backOf (W := 0) (rmA l Z a0 hw [] b18 b80 b1 2 18 fp (own_out fp 18) xv88 T81.heap n0 Zs V_b18 V_b80 V_b1 (by omega) (by omega) hxv88 (own_outv (by omega) hxv88)) hZ (hw _ (List.mem_of_getElem? (i := 10) rfl)) (hw _ (List.mem_of_getElem? (i := 9) rfl)) (by decide) (by decide)) (g := (mkF m 417 #[.val (.long j0), .second, .val (.long j1), .second, .val (.int i2), .val (.int i3), .val (.ref b1), .val (.ref b18), .val (.int (Int32.ofNat n)), .val (.ref b78), .val (.int (Int32.ofNat jn)), .val (.int (Int32.ofNat mn)), .val (.ref b80), .val (.ref b81), .unset] [(.int (2 : Int32)), (.ref b1), (.ref b80), (.ref b18)])) rfl (by rw [hml]; rfl) (argsL := [(.ref b18), (.ref b80), (.ref b1), (.int (2 : Int32))]) (rest := []) (lenOf own_pd1 rfl) rfl (by show 2 * 0 + _ ≤ _; exact Nat.le_of_eq rfl) (hb hby at_417) (fun _ _ => ⟨rfl, ec87, (by decide : 5 + 0 ≤ _), (by decide : 223 + 0 ≤ _)⟩)
    dsimp only [Pt.U, Pt.locs, Pt.cells, Pt.slots] at X89 l89 y89 z89 st89 hQ89
    subst l89 y89 z89
    obtain ⟨rfl, Nq89, hp89⟩ := hQ89
    have Nf := Fr.app Nf Nq89
    obtain ⟨LhX89, X89, Nf⟩ := own_hide X89 Nf
    have ec89 : T89.heap = T81.heap := hp89
    refine own_by (B := T89.setTop (mkF m 420 #[.val (.long j0), .second, .val (.long j1), .second, .val (.int i2), .val (.int i3), .val (.ref b1), .val (.ref b18), .val (.int (Int32.ofNat n)), .val (.ref b78), .val (.int (Int32.ofNat jn)), .val (.int (Int32.ofNat mn)), .val (.ref b80), .val (.ref b81), .unset] [(.int (1 : Int32))])) st89 ?_
    refine own_by (B := T89.setTop (mkF m 423 #[.val (.long j0), .second, .val (.long j1), .second, .val (.int i2), .val (.int i3), .val (.ref b1), .val (.ref b18), .val (.int (Int32.ofNat n)), .val (.ref b78), .val (.int (Int32.ofNat jn)), .val (.int (Int32.ofNat mn)), .val (.ref b80), .val (.ref b81), .unset] [])) (fun t k => XS.ifNo X89.here hx rfl (hb hby at_420) rfl ((if0 _ _).trans (feq (by decide)).1) k) ?_
    refine own_by (B := T89.setTop (mkF m 425 #[.val (.long j0), .second, .val (.long j1), .second, .val (.int i2), .val (.int i3), .val (.ref b1), .val (.ref b18), .val (.int (Int32.ofNat n)), .val (.ref b78), .val (.int (Int32.ofNat jn)), .val (.int (Int32.ofNat mn)), .val (.ref b80), .val (.ref b81), .unset] [(.ref b18)])) (fun t k => XS.aload X89.here hx rfl (hb hby at_423) rfl rfl k) ?_
    refine own_by (B := T89.setTop (mkF m 427 #[.val (.long j0), .second, .val (.long j1), .second, .val (.int i2), .val (.int i3), .val (.ref b1), .val (.ref b18), .val (.int (Int32.ofNat n)), .val (.ref b78), .val (.int (Int32.ofNat jn)), .val (.int (Int32.ofNat mn)), .val (.ref b80), .val (.ref b81), .unset] [(.ref b80), (.ref b18)])) (fun t k => XS.aload X89.here hx rfl (hb hby at_425) rfl rfl k) ?_
    refine own_by (B := T89.setTop (mkF m 429 #[.val (.long j0), .second, .val (.long j1), .second, .val (.int i2), .val (.int i3), .val (.ref b1), .val (.ref b18), .val (.int (Int32.ofNat n)), .val (.ref b78), .val (.int (Int32.ofNat jn)), .val (.int (Int32.ofNat mn)), .val (.ref b80), .val (.ref b81), .unset] [(.ref b1), (.ref b80), (.ref b18)])) (fun t k => XS.aload X89.here hx rfl (hb hby at_427) rfl rfl k) ?_
    refine own_by (B := T89.setTop (mkF m 430 #[.val (.long j0), .second, .val (.long j1), .second, .val (.int i2), .val (.int i3), .val (.ref b1), .val (.ref b18), .val (.int (Int32.ofNat n)), .val (.ref b78), .val (.int (Int32.ofNat jn)), .val (.int (Int32.ofNat mn)), .val (.ref b80), .val (.ref b81), .unset] [(.int (3 : Int32)), (.ref b1), (.ref b80), (.ref b18)])) (fun t k => XS.iconst X89.here hx rfl (hb hby at_429) k) ?_
    obtain ⟨xv90, hxv90⟩ := hfp 3 (by omega)
    obtain ⟨_, _, ⟨T91, L91, k91, n91⟩, -, X91, ⟨Lc91, hQ91, l91, y91, z91⟩, st91⟩ := Jvm.LawKit.callS X89 hx (y := (⟨"com/example/palaver/palaver/protocol/FlapLoginRoastPinLaw", "at", "([B[B[BI)Z"⟩ : MethodName)) hown (mvT hZ (hw _ (List.mem_of_getElem? (i := 7) rfl))) (mvT hZ (hw _ (List.mem_of_getElem? (i := 8) rfl))) (mvT hZ (hw _ (List.mem_of_getElem? (i := 9) rfl))) (mvT hZ (hw _ (List.mem_of_getElem? (i := 10) rfl))) (by decide) (backOf (W := 0) (rmA l Z a0 hw [] b18 b80 b1 3 18 fp (own_out fp 18) xv90 T81.heap n0 Zs V_b18 V_b80 V_b1 (by omega) (by omega) hxv90 (own_outv (by omega) hxv90)) hZ (hw _ (List.mem_of_getElem? (i := 10) rfl)) (hw _ (List.mem_of_getElem? (i := 9) rfl)) (by decide) (by decide)) (g := (mkF m 430 #[.val (.long j0), .second, .val (.long j1), .second, .val (.int i2), .val (.int i3), .val (.ref b1), .val (.ref b18), .val (.int (Int32.ofNat n)), .val (.ref b78), .val (.int (Int32.ofNat jn)), .val (.int (Int32.ofNat mn)), .val (.ref b80), .val (.ref b81), .unset] [(.int (3 : Int32)), (.ref b1), (.ref b80), (.ref b18)])) rfl (by rw [hml]; rfl) (argsL := [(.ref b18), (.ref b80), (.ref b1), (.int (3 : Int32))]) (rest := []) (lenOf own_pd1 rfl) rfl (by show 2 * 0 + _ ≤ _; exact Nat.le_of_eq rfl) (hb hby at_430) (fun _ _ => ⟨rfl, ec89, (by decide : 5 + 0 ≤ _), (by decide : 223 + 0 ≤ _)⟩)
    dsimp only [Pt.U, Pt.locs, Pt.cells, Pt.slots] at X91 l91 y91 z91 st91 hQ91
    subst l91 y91 z91
    obtain ⟨rfl, Nq91, hp91⟩ := hQ91
    have Nf := Fr.app Nf Nq91
    obtain ⟨LhX91, X91, Nf⟩ := own_hide X91 Nf
    have ec91 : T91.heap = T81.heap := hp91
    refine own_by (B := T91.setTop (mkF m 433 #[.val (.long j0), .second, .val (.long j1), .second, .val (.int i2), .val (.int i3), .val (.ref b1), .val (.ref b18), .val (.int (Int32.ofNat n)), .val (.ref b78), .val (.int (Int32.ofNat jn)), .val (.int (Int32.ofNat mn)), .val (.ref b80), .val (.ref b81), .unset] [(.int (1 : Int32))])) st91 ?_
    refine own_by (B := T91.setTop (mkF m 436 #[.val (.long j0), .second, .val (.long j1), .second, .val (.int i2), .val (.int i3), .val (.ref b1), .val (.ref b18), .val (.int (Int32.ofNat n)), .val (.ref b78), .val (.int (Int32.ofNat jn)), .val (.int (Int32.ofNat mn)), .val (.ref b80), .val (.ref b81), .unset] [])) (fun t k => XS.ifNo X91.here hx rfl (hb hby at_433) rfl ((if0 _ _).trans (feq (by decide)).1) k) ?_
    refine own_by (B := T91.setTop (mkF m 438 #[.val (.long j0), .second, .val (.long j1), .second, .val (.int i2), .val (.int i3), .val (.ref b1), .val (.ref b18), .val (.int (Int32.ofNat n)), .val (.ref b78), .val (.int (Int32.ofNat jn)), .val (.int (Int32.ofNat mn)), .val (.ref b80), .val (.ref b81), .unset] [(.ref b18)])) (fun t k => XS.aload X91.here hx rfl (hb hby at_436) rfl rfl k) ?_
    refine own_by (B := T91.setTop (mkF m 440 #[.val (.long j0), .second, .val (.long j1), .second, .val (.int i2), .val (.int i3), .val (.ref b1), .val (.ref b18), .val (.int (Int32.ofNat n)), .val (.ref b78), .val (.int (Int32.ofNat jn)), .val (.int (Int32.ofNat mn)), .val (.ref b80), .val (.ref b81), .unset] [(.ref b80), (.ref b18)])) (fun t k => XS.aload X91.here hx rfl (hb hby at_438) rfl rfl k) ?_
    refine own_by (B := T91.setTop (mkF m 442 #[.val (.long j0), .second, .val (.long j1), .second, .val (.int i2), .val (.int i3), .val (.ref b1), .val (.ref b18), .val (.int (Int32.ofNat n)), .val (.ref b78), .val (.int (Int32.ofNat jn)), .val (.int (Int32.ofNat mn)), .val (.ref b80), .val (.ref b81), .unset] [(.ref b1), (.ref b80), (.ref b18)])) (fun t k => XS.aload X91.here hx rfl (hb hby at_440) rfl rfl k) ?_
    refine own_by (B := T91.setTop (mkF m 443 #[.val (.long j0), .second, .val (.long j1), .second, .val (.int i2), .val (.int i3), .val (.ref b1), .val (.ref b18), .val (.int (Int32.ofNat n)), .val (.ref b78), .val (.int (Int32.ofNat jn)), .val (.int (Int32.ofNat mn)), .val (.ref b80), .val (.ref b81), .unset] [(.int (4 : Int32)), (.ref b1), (.ref b80), (.ref b18)])) (fun t k => XS.iconst X91.here hx rfl (hb hby at_442) k) ?_
    obtain ⟨xv92, hxv92⟩ := hfp 4 (by omega)
    obtain ⟨_, _, ⟨T93, L93, k93, n93⟩, -, X93, ⟨Lc93, hQ93, l93, y93, z93⟩, st93⟩ := Jvm.LawKit.callS X91 hx (y := (⟨"com/example/palaver/palaver/protocol/FlapLoginRoastPinLaw", "at", "([B[B[BI)Z"⟩ : MethodName)) hown (mvT hZ (hw _ (List.mem_of_getElem? (i := 7) rfl))) (mvT hZ (hw _ (List.mem_of_getElem? (i := 8) rfl))) (mvT hZ (hw _ (List.mem_of_getElem? (i := 9) rfl))) (mvT hZ (hw _ (List.mem_of_getElem? (i := 10) rfl))) (by decide) (backOf (W := 0) (rmA l Z a0 hw [] b18 b80 b1 4 18 fp (own_out fp 18) xv92 T81.heap n0 Zs V_b18 V_b80 V_b1 (by omega) (by omega) hxv92 (own_outv (by omega) hxv92)) hZ (hw _ (List.mem_of_getElem? (i := 10) rfl)) (hw _ (List.mem_of_getElem? (i := 9) rfl)) (by decide) (by decide)) (g := (mkF m 443 #[.val (.long j0), .second, .val (.long j1), .second, .val (.int i2), .val (.int i3), .val (.ref b1), .val (.ref b18), .val (.int (Int32.ofNat n)), .val (.ref b78), .val (.int (Int32.ofNat jn)), .val (.int (Int32.ofNat mn)), .val (.ref b80), .val (.ref b81), .unset] [(.int (4 : Int32)), (.ref b1), (.ref b80), (.ref b18)])) rfl (by rw [hml]; rfl) (argsL := [(.ref b18), (.ref b80), (.ref b1), (.int (4 : Int32))]) (rest := []) (lenOf own_pd1 rfl) rfl (by show 2 * 0 + _ ≤ _; exact Nat.le_of_eq rfl) (hb hby at_443) (fun _ _ => ⟨rfl, ec91, (by decide : 5 + 0 ≤ _), (by decide : 223 + 0 ≤ _)⟩)
    dsimp only [Pt.U, Pt.locs, Pt.cells, Pt.slots] at X93 l93 y93 z93 st93 hQ93
    subst l93 y93 z93
    obtain ⟨rfl, Nq93, hp93⟩ := hQ93
    have Nf := Fr.app Nf Nq93
    obtain ⟨LhX93, X93, Nf⟩ := own_hide X93 Nf
    have ec93 : T93.heap = T81.heap := hp93
    refine own_by (B := T93.setTop (mkF m 446 #[.val (.long j0), .second, .val (.long j1), .second, .val (.int i2), .val (.int i3), .val (.ref b1), .val (.ref b18), .val (.int (Int32.ofNat n)), .val (.ref b78), .val (.int (Int32.ofNat jn)), .val (.int (Int32.ofNat mn)), .val (.ref b80), .val (.ref b81), .unset] [(.int (1 : Int32))])) st93 ?_
    refine own_by (B := T93.setTop (mkF m 449 #[.val (.long j0), .second, .val (.long j1), .second, .val (.int i2), .val (.int i3), .val (.ref b1), .val (.ref b18), .val (.int (Int32.ofNat n)), .val (.ref b78), .val (.int (Int32.ofNat jn)), .val (.int (Int32.ofNat mn)), .val (.ref b80), .val (.ref b81), .unset] [])) (fun t k => XS.ifNo X93.here hx rfl (hb hby at_446) rfl ((if0 _ _).trans (feq (by decide)).1) k) ?_
    refine own_by (B := T93.setTop (mkF m 451 #[.val (.long j0), .second, .val (.long j1), .second, .val (.int i2), .val (.int i3), .val (.ref b1), .val (.ref b18), .val (.int (Int32.ofNat n)), .val (.ref b78), .val (.int (Int32.ofNat jn)), .val (.int (Int32.ofNat mn)), .val (.ref b80), .val (.ref b81), .unset] [(.ref b18)])) (fun t k => XS.aload X93.here hx rfl (hb hby at_449) rfl rfl k) ?_
    refine own_by (B := T93.setTop (mkF m 453 #[.val (.long j0), .second, .val (.long j1), .second, .val (.int i2), .val (.int i3), .val (.ref b1), .val (.ref b18), .val (.int (Int32.ofNat n)), .val (.ref b78), .val (.int (Int32.ofNat jn)), .val (.int (Int32.ofNat mn)), .val (.ref b80), .val (.ref b81), .unset] [(.ref b80), (.ref b18)])) (fun t k => XS.aload X93.here hx rfl (hb hby at_451) rfl rfl k) ?_
    refine own_by (B := T93.setTop (mkF m 455 #[.val (.long j0), .second, .val (.long j1), .second, .val (.int i2), .val (.int i3), .val (.ref b1), .val (.ref b18), .val (.int (Int32.ofNat n)), .val (.ref b78), .val (.int (Int32.ofNat jn)), .val (.int (Int32.ofNat mn)), .val (.ref b80), .val (.ref b81), .unset] [(.ref b1), (.ref b80), (.ref b18)])) (fun t k => XS.aload X93.here hx rfl (hb hby at_453) rfl rfl k) ?_
    refine own_by (B := T93.setTop (mkF m 456 #[.val (.long j0), .second, .val (.long j1), .second, .val (.int i2), .val (.int i3), .val (.ref b1), .val (.ref b18), .val (.int (Int32.ofNat n)), .val (.ref b78), .val (.int (Int32.ofNat jn)), .val (.int (Int32.ofNat mn)), .val (.ref b80), .val (.ref b81), .unset] [(.int (5 : Int32)), (.ref b1), (.ref b80), (.ref b18)])) (fun t k => XS.iconst X93.here hx rfl (hb hby at_455) k) ?_
    obtain ⟨xv94, hxv94⟩ := hfp 5 (by omega)
    obtain ⟨_, _, ⟨T95, L95, k95, n95⟩, -, X95, ⟨Lc95, hQ95, l95, y95, z95⟩, st95⟩ := Jvm.LawKit.callS X93 hx (y := (⟨"com/example/palaver/palaver/protocol/FlapLoginRoastPinLaw", "at", "([B[B[BI)Z"⟩ : MethodName)) hown (mvT hZ (hw _ (List.mem_of_getElem? (i := 7) rfl))) (mvT hZ (hw _ (List.mem_of_getElem? (i := 8) rfl))) (mvT hZ (hw _ (List.mem_of_getElem? (i := 9) rfl))) (mvT hZ (hw _ (List.mem_of_getElem? (i := 10) rfl))) (by decide) (backOf (W := 0) (rmA l Z a0 hw [] b18 b80 b1 5 18 fp (own_out fp 18) xv94 T81.heap n0 Zs V_b18 V_b80 V_b1 (by omega) (by omega) hxv94 (own_outv (by omega) hxv94)) hZ (hw _ (List.mem_of_getElem? (i := 10) rfl)) (hw _ (List.mem_of_getElem? (i := 9) rfl)) (by decide) (by decide)) (g := (mkF m 456 #[.val (.long j0), .second, .val (.long j1), .second, .val (.int i2), .val (.int i3), .val (.ref b1), .val (.ref b18), .val (.int (Int32.ofNat n)), .val (.ref b78), .val (.int (Int32.ofNat jn)), .val (.int (Int32.ofNat mn)), .val (.ref b80), .val (.ref b81), .unset] [(.int (5 : Int32)), (.ref b1), (.ref b80), (.ref b18)])) rfl (by rw [hml]; rfl) (argsL := [(.ref b18), (.ref b80), (.ref b1), (.int (5 : Int32))]) (rest := []) (lenOf own_pd1 rfl) rfl (by show 2 * 0 + _ ≤ _; exact Nat.le_of_eq rfl) (hb hby at_456) (fun _ _ => ⟨rfl, ec93, (by decide : 5 + 0 ≤ _), (by decide : 223 + 0 ≤ _)⟩)
    dsimp only [Pt.U, Pt.locs, Pt.cells, Pt.slots] at X95 l95 y95 z95 st95 hQ95
    subst l95 y95 z95
    obtain ⟨rfl, Nq95, hp95⟩ := hQ95
    have Nf := Fr.app Nf Nq95
    obtain ⟨LhX95, X95, Nf⟩ := own_hide X95 Nf
    have ec95 : T95.heap = T81.heap := hp95
    refine own_by (B := T95.setTop (mkF m 459 #[.val (.long j0), .second, .val (.long j1), .second, .val (.int i2), .val (.int i3), .val (.ref b1), .val (.ref b18), .val (.int (Int32.ofNat n)), .val (.ref b78), .val (.int (Int32.ofNat jn)), .val (.int (Int32.ofNat mn)), .val (.ref b80), .val (.ref b81), .unset] [(.int (1 : Int32))])) st95 ?_
    refine own_by (B := T95.setTop (mkF m 462 #[.val (.long j0), .second, .val (.long j1), .second, .val (.int i2), .val (.int i3), .val (.ref b1), .val (.ref b18), .val (.int (Int32.ofNat n)), .val (.ref b78), .val (.int (Int32.ofNat jn)), .val (.int (Int32.ofNat mn)), .val (.ref b80), .val (.ref b81), .unset] [])) (fun t k => XS.ifNo X95.here hx rfl (hb hby at_459) rfl ((if0 _ _).trans (feq (by decide)).1) k) ?_
    refine own_by (B := T95.setTop (mkF m 464 #[.val (.long j0), .second, .val (.long j1), .second, .val (.int i2), .val (.int i3), .val (.ref b1), .val (.ref b18), .val (.int (Int32.ofNat n)), .val (.ref b78), .val (.int (Int32.ofNat jn)), .val (.int (Int32.ofNat mn)), .val (.ref b80), .val (.ref b81), .unset] [(.ref b18)])) (fun t k => XS.aload X95.here hx rfl (hb hby at_462) rfl rfl k) ?_
    refine own_by (B := T95.setTop (mkF m 466 #[.val (.long j0), .second, .val (.long j1), .second, .val (.int i2), .val (.int i3), .val (.ref b1), .val (.ref b18), .val (.int (Int32.ofNat n)), .val (.ref b78), .val (.int (Int32.ofNat jn)), .val (.int (Int32.ofNat mn)), .val (.ref b80), .val (.ref b81), .unset] [(.ref b80), (.ref b18)])) (fun t k => XS.aload X95.here hx rfl (hb hby at_464) rfl rfl k) ?_
    refine own_by (B := T95.setTop (mkF m 468 #[.val (.long j0), .second, .val (.long j1), .second, .val (.int i2), .val (.int i3), .val (.ref b1), .val (.ref b18), .val (.int (Int32.ofNat n)), .val (.ref b78), .val (.int (Int32.ofNat jn)), .val (.int (Int32.ofNat mn)), .val (.ref b80), .val (.ref b81), .unset] [(.ref b1), (.ref b80), (.ref b18)])) (fun t k => XS.aload X95.here hx rfl (hb hby at_466) rfl rfl k) ?_
    refine own_by (B := T95.setTop (mkF m 470 #[.val (.long j0), .second, .val (.long j1), .second, .val (.int i2), .val (.int i3), .val (.ref b1), .val (.ref b18), .val (.int (Int32.ofNat n)), .val (.ref b78), .val (.int (Int32.ofNat jn)), .val (.int (Int32.ofNat mn)), .val (.ref b80), .val (.ref b81), .unset] [(.int (6 : Int32)), (.ref b1), (.ref b80), (.ref b18)])) (fun t k => XS.bipush X95.here hx rfl (hb hby at_468) k) ?_
    obtain ⟨xv96, hxv96⟩ := hfp 6 (by omega)
    obtain ⟨_, _, ⟨T97, L97, k97, n97⟩, -, X97, ⟨Lc97, hQ97, l97, y97, z97⟩, st97⟩ := Jvm.LawKit.callS X95 hx (y := (⟨"com/example/palaver/palaver/protocol/FlapLoginRoastPinLaw", "at", "([B[B[BI)Z"⟩ : MethodName)) hown (mvT hZ (hw _ (List.mem_of_getElem? (i := 7) rfl))) (mvT hZ (hw _ (List.mem_of_getElem? (i := 8) rfl))) (mvT hZ (hw _ (List.mem_of_getElem? (i := 9) rfl))) (mvT hZ (hw _ (List.mem_of_getElem? (i := 10) rfl))) (by decide) (backOf (W := 0) (rmA l Z a0 hw [] b18 b80 b1 6 18 fp (own_out fp 18) xv96 T81.heap n0 Zs V_b18 V_b80 V_b1 (by omega) (by omega) hxv96 (own_outv (by omega) hxv96)) hZ (hw _ (List.mem_of_getElem? (i := 10) rfl)) (hw _ (List.mem_of_getElem? (i := 9) rfl)) (by decide) (by decide)) (g := (mkF m 470 #[.val (.long j0), .second, .val (.long j1), .second, .val (.int i2), .val (.int i3), .val (.ref b1), .val (.ref b18), .val (.int (Int32.ofNat n)), .val (.ref b78), .val (.int (Int32.ofNat jn)), .val (.int (Int32.ofNat mn)), .val (.ref b80), .val (.ref b81), .unset] [(.int (6 : Int32)), (.ref b1), (.ref b80), (.ref b18)])) rfl (by rw [hml]; rfl) (argsL := [(.ref b18), (.ref b80), (.ref b1), (.int (6 : Int32))]) (rest := []) (lenOf own_pd1 rfl) rfl (by show 2 * 0 + _ ≤ _; exact Nat.le_of_eq rfl) (hb hby at_470) (fun _ _ => ⟨rfl, ec95, (by decide : 5 + 0 ≤ _), (by decide : 223 + 0 ≤ _)⟩)
    dsimp only [Pt.U, Pt.locs, Pt.cells, Pt.slots] at X97 l97 y97 z97 st97 hQ97
    subst l97 y97 z97
    obtain ⟨rfl, Nq97, hp97⟩ := hQ97
    have Nf := Fr.app Nf Nq97
    obtain ⟨LhX97, X97, Nf⟩ := own_hide X97 Nf
    have ec97 : T97.heap = T81.heap := hp97
    refine own_by (B := T97.setTop (mkF m 473 #[.val (.long j0), .second, .val (.long j1), .second, .val (.int i2), .val (.int i3), .val (.ref b1), .val (.ref b18), .val (.int (Int32.ofNat n)), .val (.ref b78), .val (.int (Int32.ofNat jn)), .val (.int (Int32.ofNat mn)), .val (.ref b80), .val (.ref b81), .unset] [(.int (1 : Int32))])) st97 ?_
    refine own_by (B := T97.setTop (mkF m 476 #[.val (.long j0), .second, .val (.long j1), .second, .val (.int i2), .val (.int i3), .val (.ref b1), .val (.ref b18), .val (.int (Int32.ofNat n)), .val (.ref b78), .val (.int (Int32.ofNat jn)), .val (.int (Int32.ofNat mn)), .val (.ref b80), .val (.ref b81), .unset] [])) (fun t k => XS.ifNo X97.here hx rfl (hb hby at_473) rfl ((if0 _ _).trans (feq (by decide)).1) k) ?_
    refine own_by (B := T97.setTop (mkF m 478 #[.val (.long j0), .second, .val (.long j1), .second, .val (.int i2), .val (.int i3), .val (.ref b1), .val (.ref b18), .val (.int (Int32.ofNat n)), .val (.ref b78), .val (.int (Int32.ofNat jn)), .val (.int (Int32.ofNat mn)), .val (.ref b80), .val (.ref b81), .unset] [(.ref b18)])) (fun t k => XS.aload X97.here hx rfl (hb hby at_476) rfl rfl k) ?_
    refine own_by (B := T97.setTop (mkF m 480 #[.val (.long j0), .second, .val (.long j1), .second, .val (.int i2), .val (.int i3), .val (.ref b1), .val (.ref b18), .val (.int (Int32.ofNat n)), .val (.ref b78), .val (.int (Int32.ofNat jn)), .val (.int (Int32.ofNat mn)), .val (.ref b80), .val (.ref b81), .unset] [(.ref b80), (.ref b18)])) (fun t k => XS.aload X97.here hx rfl (hb hby at_478) rfl rfl k) ?_
    refine own_by (B := T97.setTop (mkF m 482 #[.val (.long j0), .second, .val (.long j1), .second, .val (.int i2), .val (.int i3), .val (.ref b1), .val (.ref b18), .val (.int (Int32.ofNat n)), .val (.ref b78), .val (.int (Int32.ofNat jn)), .val (.int (Int32.ofNat mn)), .val (.ref b80), .val (.ref b81), .unset] [(.ref b1), (.ref b80), (.ref b18)])) (fun t k => XS.aload X97.here hx rfl (hb hby at_480) rfl rfl k) ?_
    refine own_by (B := T97.setTop (mkF m 484 #[.val (.long j0), .second, .val (.long j1), .second, .val (.int i2), .val (.int i3), .val (.ref b1), .val (.ref b18), .val (.int (Int32.ofNat n)), .val (.ref b78), .val (.int (Int32.ofNat jn)), .val (.int (Int32.ofNat mn)), .val (.ref b80), .val (.ref b81), .unset] [(.int (7 : Int32)), (.ref b1), (.ref b80), (.ref b18)])) (fun t k => XS.bipush X97.here hx rfl (hb hby at_482) k) ?_
    obtain ⟨xv98, hxv98⟩ := hfp 7 (by omega)
    obtain ⟨_, _, ⟨T99, L99, k99, n99⟩, -, X99, ⟨Lc99, hQ99, l99, y99, z99⟩, st99⟩ := Jvm.LawKit.callS X97 hx (y := (⟨"com/example/palaver/palaver/protocol/FlapLoginRoastPinLaw", "at", "([B[B[BI)Z"⟩ : MethodName)) hown (mvT hZ (hw _ (List.mem_of_getElem? (i := 7) rfl))) (mvT hZ (hw _ (List.mem_of_getElem? (i := 8) rfl))) (mvT hZ (hw _ (List.mem_of_getElem? (i := 9) rfl))) (mvT hZ (hw _ (List.mem_of_getElem? (i := 10) rfl))) (by decide) (backOf (W := 0) (rmA l Z a0 hw [] b18 b80 b1 7 18 fp (own_out fp 18) xv98 T81.heap n0 Zs V_b18 V_b80 V_b1 (by omega) (by omega) hxv98 (own_outv (by omega) hxv98)) hZ (hw _ (List.mem_of_getElem? (i := 10) rfl)) (hw _ (List.mem_of_getElem? (i := 9) rfl)) (by decide) (by decide)) (g := (mkF m 484 #[.val (.long j0), .second, .val (.long j1), .second, .val (.int i2), .val (.int i3), .val (.ref b1), .val (.ref b18), .val (.int (Int32.ofNat n)), .val (.ref b78), .val (.int (Int32.ofNat jn)), .val (.int (Int32.ofNat mn)), .val (.ref b80), .val (.ref b81), .unset] [(.int (7 : Int32)), (.ref b1), (.ref b80), (.ref b18)])) rfl (by rw [hml]; rfl) (argsL := [(.ref b18), (.ref b80), (.ref b1), (.int (7 : Int32))]) (rest := []) (lenOf own_pd1 rfl) rfl (by show 2 * 0 + _ ≤ _; exact Nat.le_of_eq rfl) (hb hby at_484) (fun _ _ => ⟨rfl, ec97, (by decide : 5 + 0 ≤ _), (by decide : 223 + 0 ≤ _)⟩)
    dsimp only [Pt.U, Pt.locs, Pt.cells, Pt.slots] at X99 l99 y99 z99 st99 hQ99
    subst l99 y99 z99
    obtain ⟨rfl, Nq99, hp99⟩ := hQ99
    have Nf := Fr.app Nf Nq99
    obtain ⟨LhX99, X99, Nf⟩ := own_hide X99 Nf
    have ec99 : T99.heap = T81.heap := hp99
    refine own_by (B := T99.setTop (mkF m 487 #[.val (.long j0), .second, .val (.long j1), .second, .val (.int i2), .val (.int i3), .val (.ref b1), .val (.ref b18), .val (.int (Int32.ofNat n)), .val (.ref b78), .val (.int (Int32.ofNat jn)), .val (.int (Int32.ofNat mn)), .val (.ref b80), .val (.ref b81), .unset] [(.int (1 : Int32))])) st99 ?_
    refine own_by (B := T99.setTop (mkF m 490 #[.val (.long j0), .second, .val (.long j1), .second, .val (.int i2), .val (.int i3), .val (.ref b1), .val (.ref b18), .val (.int (Int32.ofNat n)), .val (.ref b78), .val (.int (Int32.ofNat jn)), .val (.int (Int32.ofNat mn)), .val (.ref b80), .val (.ref b81), .unset] [])) (fun t k => XS.ifNo X99.here hx rfl (hb hby at_487) rfl ((if0 _ _).trans (feq (by decide)).1) k) ?_
    refine own_by (B := T99.setTop (mkF m 492 #[.val (.long j0), .second, .val (.long j1), .second, .val (.int i2), .val (.int i3), .val (.ref b1), .val (.ref b18), .val (.int (Int32.ofNat n)), .val (.ref b78), .val (.int (Int32.ofNat jn)), .val (.int (Int32.ofNat mn)), .val (.ref b80), .val (.ref b81), .unset] [(.ref b18)])) (fun t k => XS.aload X99.here hx rfl (hb hby at_490) rfl rfl k) ?_
    refine own_by (B := T99.setTop (mkF m 494 #[.val (.long j0), .second, .val (.long j1), .second, .val (.int i2), .val (.int i3), .val (.ref b1), .val (.ref b18), .val (.int (Int32.ofNat n)), .val (.ref b78), .val (.int (Int32.ofNat jn)), .val (.int (Int32.ofNat mn)), .val (.ref b80), .val (.ref b81), .unset] [(.ref b80), (.ref b18)])) (fun t k => XS.aload X99.here hx rfl (hb hby at_492) rfl rfl k) ?_
    refine own_by (B := T99.setTop (mkF m 496 #[.val (.long j0), .second, .val (.long j1), .second, .val (.int i2), .val (.int i3), .val (.ref b1), .val (.ref b18), .val (.int (Int32.ofNat n)), .val (.ref b78), .val (.int (Int32.ofNat jn)), .val (.int (Int32.ofNat mn)), .val (.ref b80), .val (.ref b81), .unset] [(.ref b1), (.ref b80), (.ref b18)])) (fun t k => XS.aload X99.here hx rfl (hb hby at_494) rfl rfl k) ?_
    refine own_by (B := T99.setTop (mkF m 498 #[.val (.long j0), .second, .val (.long j1), .second, .val (.int i2), .val (.int i3), .val (.ref b1), .val (.ref b18), .val (.int (Int32.ofNat n)), .val (.ref b78), .val (.int (Int32.ofNat jn)), .val (.int (Int32.ofNat mn)), .val (.ref b80), .val (.ref b81), .unset] [(.int (8 : Int32)), (.ref b1), (.ref b80), (.ref b18)])) (fun t k => XS.bipush X99.here hx rfl (hb hby at_496) k) ?_
    obtain ⟨xv100, hxv100⟩ := hfp 8 (by omega)
    obtain ⟨_, _, ⟨T101, L101, k101, n101⟩, -, X101, ⟨Lc101, hQ101, l101, y101, z101⟩, st101⟩ := Jvm.LawKit.callS X99 hx (y := (⟨"com/example/palaver/palaver/protocol/FlapLoginRoastPinLaw", "at", "([B[B[BI)Z"⟩ : MethodName)) hown (mvT hZ (hw _ (List.mem_of_getElem? (i := 7) rfl))) (mvT hZ (hw _ (List.mem_of_getElem? (i := 8) rfl))) (mvT hZ (hw _ (List.mem_of_getElem? (i := 9) rfl))) (mvT hZ (hw _ (List.mem_of_getElem? (i := 10) rfl))) (by decide) (backOf (W := 0) (rmA l Z a0 hw [] b18 b80 b1 8 18 fp (own_out fp 18) xv100 T81.heap n0 Zs V_b18 V_b80 V_b1 (by omega) (by omega) hxv100 (own_outv (by omega) hxv100)) hZ (hw _ (List.mem_of_getElem? (i := 10) rfl)) (hw _ (List.mem_of_getElem? (i := 9) rfl)) (by decide) (by decide)) (g := (mkF m 498 #[.val (.long j0), .second, .val (.long j1), .second, .val (.int i2), .val (.int i3), .val (.ref b1), .val (.ref b18), .val (.int (Int32.ofNat n)), .val (.ref b78), .val (.int (Int32.ofNat jn)), .val (.int (Int32.ofNat mn)), .val (.ref b80), .val (.ref b81), .unset] [(.int (8 : Int32)), (.ref b1), (.ref b80), (.ref b18)])) rfl (by rw [hml]; rfl) (argsL := [(.ref b18), (.ref b80), (.ref b1), (.int (8 : Int32))]) (rest := []) (lenOf own_pd1 rfl) rfl (by show 2 * 0 + _ ≤ _; exact Nat.le_of_eq rfl) (hb hby at_498) (fun _ _ => ⟨rfl, ec99, (by decide : 5 + 0 ≤ _), (by decide : 223 + 0 ≤ _)⟩)
    dsimp only [Pt.U, Pt.locs, Pt.cells, Pt.slots] at X101 l101 y101 z101 st101 hQ101
    subst l101 y101 z101
    obtain ⟨rfl, Nq101, hp101⟩ := hQ101
    have Nf := Fr.app Nf Nq101
    obtain ⟨LhX101, X101, Nf⟩ := own_hide X101 Nf
    have ec101 : T101.heap = T81.heap := hp101
    refine own_by (B := T101.setTop (mkF m 501 #[.val (.long j0), .second, .val (.long j1), .second, .val (.int i2), .val (.int i3), .val (.ref b1), .val (.ref b18), .val (.int (Int32.ofNat n)), .val (.ref b78), .val (.int (Int32.ofNat jn)), .val (.int (Int32.ofNat mn)), .val (.ref b80), .val (.ref b81), .unset] [(.int (1 : Int32))])) st101 ?_
    refine own_by (B := T101.setTop (mkF m 504 #[.val (.long j0), .second, .val (.long j1), .second, .val (.int i2), .val (.int i3), .val (.ref b1), .val (.ref b18), .val (.int (Int32.ofNat n)), .val (.ref b78), .val (.int (Int32.ofNat jn)), .val (.int (Int32.ofNat mn)), .val (.ref b80), .val (.ref b81), .unset] [])) (fun t k => XS.ifNo X101.here hx rfl (hb hby at_501) rfl ((if0 _ _).trans (feq (by decide)).1) k) ?_
    refine own_by (B := T101.setTop (mkF m 506 #[.val (.long j0), .second, .val (.long j1), .second, .val (.int i2), .val (.int i3), .val (.ref b1), .val (.ref b18), .val (.int (Int32.ofNat n)), .val (.ref b78), .val (.int (Int32.ofNat jn)), .val (.int (Int32.ofNat mn)), .val (.ref b80), .val (.ref b81), .unset] [(.ref b18)])) (fun t k => XS.aload X101.here hx rfl (hb hby at_504) rfl rfl k) ?_
    refine own_by (B := T101.setTop (mkF m 508 #[.val (.long j0), .second, .val (.long j1), .second, .val (.int i2), .val (.int i3), .val (.ref b1), .val (.ref b18), .val (.int (Int32.ofNat n)), .val (.ref b78), .val (.int (Int32.ofNat jn)), .val (.int (Int32.ofNat mn)), .val (.ref b80), .val (.ref b81), .unset] [(.ref b80), (.ref b18)])) (fun t k => XS.aload X101.here hx rfl (hb hby at_506) rfl rfl k) ?_
    refine own_by (B := T101.setTop (mkF m 510 #[.val (.long j0), .second, .val (.long j1), .second, .val (.int i2), .val (.int i3), .val (.ref b1), .val (.ref b18), .val (.int (Int32.ofNat n)), .val (.ref b78), .val (.int (Int32.ofNat jn)), .val (.int (Int32.ofNat mn)), .val (.ref b80), .val (.ref b81), .unset] [(.ref b1), (.ref b80), (.ref b18)])) (fun t k => XS.aload X101.here hx rfl (hb hby at_508) rfl rfl k) ?_
    refine own_by (B := T101.setTop (mkF m 512 #[.val (.long j0), .second, .val (.long j1), .second, .val (.int i2), .val (.int i3), .val (.ref b1), .val (.ref b18), .val (.int (Int32.ofNat n)), .val (.ref b78), .val (.int (Int32.ofNat jn)), .val (.int (Int32.ofNat mn)), .val (.ref b80), .val (.ref b81), .unset] [(.int (9 : Int32)), (.ref b1), (.ref b80), (.ref b18)])) (fun t k => XS.bipush X101.here hx rfl (hb hby at_510) k) ?_
    obtain ⟨xv102, hxv102⟩ := hfp 9 (by omega)
    obtain ⟨_, _, ⟨T103, L103, k103, n103⟩, -, X103, ⟨Lc103, hQ103, l103, y103, z103⟩, st103⟩ := Jvm.LawKit.callS X101 hx (y := (⟨"com/example/palaver/palaver/protocol/FlapLoginRoastPinLaw", "at", "([B[B[BI)Z"⟩ : MethodName)) hown (mvT hZ (hw _ (List.mem_of_getElem? (i := 7) rfl))) (mvT hZ (hw _ (List.mem_of_getElem? (i := 8) rfl))) (mvT hZ (hw _ (List.mem_of_getElem? (i := 9) rfl))) (mvT hZ (hw _ (List.mem_of_getElem? (i := 10) rfl))) (by decide) (backOf (W := 0) (rmA l Z a0 hw [] b18 b80 b1 9 18 fp (own_out fp 18) xv102 T81.heap n0 Zs V_b18 V_b80 V_b1 (by omega) (by omega) hxv102 (own_outv (by omega) hxv102)) hZ (hw _ (List.mem_of_getElem? (i := 10) rfl)) (hw _ (List.mem_of_getElem? (i := 9) rfl)) (by decide) (by decide)) (g := (mkF m 512 #[.val (.long j0), .second, .val (.long j1), .second, .val (.int i2), .val (.int i3), .val (.ref b1), .val (.ref b18), .val (.int (Int32.ofNat n)), .val (.ref b78), .val (.int (Int32.ofNat jn)), .val (.int (Int32.ofNat mn)), .val (.ref b80), .val (.ref b81), .unset] [(.int (9 : Int32)), (.ref b1), (.ref b80), (.ref b18)])) rfl (by rw [hml]; rfl) (argsL := [(.ref b18), (.ref b80), (.ref b1), (.int (9 : Int32))]) (rest := []) (lenOf own_pd1 rfl) rfl (by show 2 * 0 + _ ≤ _; exact Nat.le_of_eq rfl) (hb hby at_512) (fun _ _ => ⟨rfl, ec101, (by decide : 5 + 0 ≤ _), (by decide : 223 + 0 ≤ _)⟩)
    dsimp only [Pt.U, Pt.locs, Pt.cells, Pt.slots] at X103 l103 y103 z103 st103 hQ103
    subst l103 y103 z103
    obtain ⟨rfl, Nq103, hp103⟩ := hQ103
    have Nf := Fr.app Nf Nq103
    obtain ⟨LhX103, X103, Nf⟩ := own_hide X103 Nf
    have ec103 : T103.heap = T81.heap := hp103
    refine own_by (B := T103.setTop (mkF m 515 #[.val (.long j0), .second, .val (.long j1), .second, .val (.int i2), .val (.int i3), .val (.ref b1), .val (.ref b18), .val (.int (Int32.ofNat n)), .val (.ref b78), .val (.int (Int32.ofNat jn)), .val (.int (Int32.ofNat mn)), .val (.ref b80), .val (.ref b81), .unset] [(.int (1 : Int32))])) st103 ?_
    refine own_by (B := T103.setTop (mkF m 518 #[.val (.long j0), .second, .val (.long j1), .second, .val (.int i2), .val (.int i3), .val (.ref b1), .val (.ref b18), .val (.int (Int32.ofNat n)), .val (.ref b78), .val (.int (Int32.ofNat jn)), .val (.int (Int32.ofNat mn)), .val (.ref b80), .val (.ref b81), .unset] [])) (fun t k => XS.ifNo X103.here hx rfl (hb hby at_515) rfl ((if0 _ _).trans (feq (by decide)).1) k) ?_
    refine own_by (B := T103.setTop (mkF m 520 #[.val (.long j0), .second, .val (.long j1), .second, .val (.int i2), .val (.int i3), .val (.ref b1), .val (.ref b18), .val (.int (Int32.ofNat n)), .val (.ref b78), .val (.int (Int32.ofNat jn)), .val (.int (Int32.ofNat mn)), .val (.ref b80), .val (.ref b81), .unset] [(.ref b18)])) (fun t k => XS.aload X103.here hx rfl (hb hby at_518) rfl rfl k) ?_
    refine own_by (B := T103.setTop (mkF m 522 #[.val (.long j0), .second, .val (.long j1), .second, .val (.int i2), .val (.int i3), .val (.ref b1), .val (.ref b18), .val (.int (Int32.ofNat n)), .val (.ref b78), .val (.int (Int32.ofNat jn)), .val (.int (Int32.ofNat mn)), .val (.ref b80), .val (.ref b81), .unset] [(.ref b80), (.ref b18)])) (fun t k => XS.aload X103.here hx rfl (hb hby at_520) rfl rfl k) ?_
    refine own_by (B := T103.setTop (mkF m 524 #[.val (.long j0), .second, .val (.long j1), .second, .val (.int i2), .val (.int i3), .val (.ref b1), .val (.ref b18), .val (.int (Int32.ofNat n)), .val (.ref b78), .val (.int (Int32.ofNat jn)), .val (.int (Int32.ofNat mn)), .val (.ref b80), .val (.ref b81), .unset] [(.ref b1), (.ref b80), (.ref b18)])) (fun t k => XS.aload X103.here hx rfl (hb hby at_522) rfl rfl k) ?_
    refine own_by (B := T103.setTop (mkF m 526 #[.val (.long j0), .second, .val (.long j1), .second, .val (.int i2), .val (.int i3), .val (.ref b1), .val (.ref b18), .val (.int (Int32.ofNat n)), .val (.ref b78), .val (.int (Int32.ofNat jn)), .val (.int (Int32.ofNat mn)), .val (.ref b80), .val (.ref b81), .unset] [(.int (10 : Int32)), (.ref b1), (.ref b80), (.ref b18)])) (fun t k => XS.bipush X103.here hx rfl (hb hby at_524) k) ?_
    obtain ⟨xv104, hxv104⟩ := hfp 10 (by omega)
    obtain ⟨_, _, ⟨T105, L105, k105, n105⟩, -, X105, ⟨Lc105, hQ105, l105, y105, z105⟩, st105⟩ := Jvm.LawKit.callS X103 hx (y := (⟨"com/example/palaver/palaver/protocol/FlapLoginRoastPinLaw", "at", "([B[B[BI)Z"⟩ : MethodName)) hown (mvT hZ (hw _ (List.mem_of_getElem? (i := 7) rfl))) (mvT hZ (hw _ (List.mem_of_getElem? (i := 8) rfl))) (mvT hZ (hw _ (List.mem_of_getElem? (i := 9) rfl))) (mvT hZ (hw _ (List.mem_of_getElem? (i := 10) rfl))) (by decide) (backOf (W := 0) (rmA l Z a0 hw [] b18 b80 b1 10 18 fp (own_out fp 18) xv104 T81.heap n0 Zs V_b18 V_b80 V_b1 (by omega) (by omega) hxv104 (own_outv (by omega) hxv104)) hZ (hw _ (List.mem_of_getElem? (i := 10) rfl)) (hw _ (List.mem_of_getElem? (i := 9) rfl)) (by decide) (by decide)) (g := (mkF m 526 #[.val (.long j0), .second, .val (.long j1), .second, .val (.int i2), .val (.int i3), .val (.ref b1), .val (.ref b18), .val (.int (Int32.ofNat n)), .val (.ref b78), .val (.int (Int32.ofNat jn)), .val (.int (Int32.ofNat mn)), .val (.ref b80), .val (.ref b81), .unset] [(.int (10 : Int32)), (.ref b1), (.ref b80), (.ref b18)])) rfl (by rw [hml]; rfl) (argsL := [(.ref b18), (.ref b80), (.ref b1), (.int (10 : Int32))]) (rest := []) (lenOf own_pd1 rfl) rfl (by show 2 * 0 + _ ≤ _; exact Nat.le_of_eq rfl) (hb hby at_526) (fun _ _ => ⟨rfl, ec103, (by decide : 5 + 0 ≤ _), (by decide : 223 + 0 ≤ _)⟩)
    dsimp only [Pt.U, Pt.locs, Pt.cells, Pt.slots] at X105 l105 y105 z105 st105 hQ105
    subst l105 y105 z105
    obtain ⟨rfl, Nq105, hp105⟩ := hQ105
    have Nf := Fr.app Nf Nq105
    obtain ⟨LhX105, X105, Nf⟩ := own_hide X105 Nf
    have ec105 : T105.heap = T81.heap := hp105
    refine own_by (B := T105.setTop (mkF m 529 #[.val (.long j0), .second, .val (.long j1), .second, .val (.int i2), .val (.int i3), .val (.ref b1), .val (.ref b18), .val (.int (Int32.ofNat n)), .val (.ref b78), .val (.int (Int32.ofNat jn)), .val (.int (Int32.ofNat mn)), .val (.ref b80), .val (.ref b81), .unset] [(.int (1 : Int32))])) st105 ?_
    refine own_by (B := T105.setTop (mkF m 532 #[.val (.long j0), .second, .val (.long j1), .second, .val (.int i2), .val (.int i3), .val (.ref b1), .val (.ref b18), .val (.int (Int32.ofNat n)), .val (.ref b78), .val (.int (Int32.ofNat jn)), .val (.int (Int32.ofNat mn)), .val (.ref b80), .val (.ref b81), .unset] [])) (fun t k => XS.ifNo X105.here hx rfl (hb hby at_529) rfl ((if0 _ _).trans (feq (by decide)).1) k) ?_
    refine own_by (B := T105.setTop (mkF m 534 #[.val (.long j0), .second, .val (.long j1), .second, .val (.int i2), .val (.int i3), .val (.ref b1), .val (.ref b18), .val (.int (Int32.ofNat n)), .val (.ref b78), .val (.int (Int32.ofNat jn)), .val (.int (Int32.ofNat mn)), .val (.ref b80), .val (.ref b81), .unset] [(.ref b18)])) (fun t k => XS.aload X105.here hx rfl (hb hby at_532) rfl rfl k) ?_
    refine own_by (B := T105.setTop (mkF m 536 #[.val (.long j0), .second, .val (.long j1), .second, .val (.int i2), .val (.int i3), .val (.ref b1), .val (.ref b18), .val (.int (Int32.ofNat n)), .val (.ref b78), .val (.int (Int32.ofNat jn)), .val (.int (Int32.ofNat mn)), .val (.ref b80), .val (.ref b81), .unset] [(.ref b80), (.ref b18)])) (fun t k => XS.aload X105.here hx rfl (hb hby at_534) rfl rfl k) ?_
    refine own_by (B := T105.setTop (mkF m 538 #[.val (.long j0), .second, .val (.long j1), .second, .val (.int i2), .val (.int i3), .val (.ref b1), .val (.ref b18), .val (.int (Int32.ofNat n)), .val (.ref b78), .val (.int (Int32.ofNat jn)), .val (.int (Int32.ofNat mn)), .val (.ref b80), .val (.ref b81), .unset] [(.ref b1), (.ref b80), (.ref b18)])) (fun t k => XS.aload X105.here hx rfl (hb hby at_536) rfl rfl k) ?_
    refine own_by (B := T105.setTop (mkF m 540 #[.val (.long j0), .second, .val (.long j1), .second, .val (.int i2), .val (.int i3), .val (.ref b1), .val (.ref b18), .val (.int (Int32.ofNat n)), .val (.ref b78), .val (.int (Int32.ofNat jn)), .val (.int (Int32.ofNat mn)), .val (.ref b80), .val (.ref b81), .unset] [(.int (11 : Int32)), (.ref b1), (.ref b80), (.ref b18)])) (fun t k => XS.bipush X105.here hx rfl (hb hby at_538) k) ?_
    obtain ⟨xv106, hxv106⟩ := hfp 11 (by omega)
    obtain ⟨_, _, ⟨T107, L107, k107, n107⟩, -, X107, ⟨Lc107, hQ107, l107, y107, z107⟩, st107⟩ := Jvm.LawKit.callS X105 hx (y := (⟨"com/example/palaver/palaver/protocol/FlapLoginRoastPinLaw", "at", "([B[B[BI)Z"⟩ : MethodName)) hown (mvT hZ (hw _ (List.mem_of_getElem? (i := 7) rfl))) (mvT hZ (hw _ (List.mem_of_getElem? (i := 8) rfl))) (mvT hZ (hw _ (List.mem_of_getElem? (i := 9) rfl))) (mvT hZ (hw _ (List.mem_of_getElem? (i := 10) rfl))) (by decide) (backOf (W := 0) (rmA l Z a0 hw [] b18 b80 b1 11 18 fp (own_out fp 18) xv106 T81.heap n0 Zs V_b18 V_b80 V_b1 (by omega) (by omega) hxv106 (own_outv (by omega) hxv106)) hZ (hw _ (List.mem_of_getElem? (i := 10) rfl)) (hw _ (List.mem_of_getElem? (i := 9) rfl)) (by decide) (by decide)) (g := (mkF m 540 #[.val (.long j0), .second, .val (.long j1), .second, .val (.int i2), .val (.int i3), .val (.ref b1), .val (.ref b18), .val (.int (Int32.ofNat n)), .val (.ref b78), .val (.int (Int32.ofNat jn)), .val (.int (Int32.ofNat mn)), .val (.ref b80), .val (.ref b81), .unset] [(.int (11 : Int32)), (.ref b1), (.ref b80), (.ref b18)])) rfl (by rw [hml]; rfl) (argsL := [(.ref b18), (.ref b80), (.ref b1), (.int (11 : Int32))]) (rest := []) (lenOf own_pd1 rfl) rfl (by show 2 * 0 + _ ≤ _; exact Nat.le_of_eq rfl) (hb hby at_540) (fun _ _ => ⟨rfl, ec105, (by decide : 5 + 0 ≤ _), (by decide : 223 + 0 ≤ _)⟩)
    dsimp only [Pt.U, Pt.locs, Pt.cells, Pt.slots] at X107 l107 y107 z107 st107 hQ107
    subst l107 y107 z107
    obtain ⟨rfl, Nq107, hp107⟩ := hQ107
    have Nf := Fr.app Nf Nq107
    obtain ⟨LhX107, X107, Nf⟩ := own_hide X107 Nf
    have ec107 : T107.heap = T81.heap := hp107
    refine own_by (B := T107.setTop (mkF m 543 #[.val (.long j0), .second, .val (.long j1), .second, .val (.int i2), .val (.int i3), .val (.ref b1), .val (.ref b18), .val (.int (Int32.ofNat n)), .val (.ref b78), .val (.int (Int32.ofNat jn)), .val (.int (Int32.ofNat mn)), .val (.ref b80), .val (.ref b81), .unset] [(.int (1 : Int32))])) st107 ?_
    refine own_by (B := T107.setTop (mkF m 546 #[.val (.long j0), .second, .val (.long j1), .second, .val (.int i2), .val (.int i3), .val (.ref b1), .val (.ref b18), .val (.int (Int32.ofNat n)), .val (.ref b78), .val (.int (Int32.ofNat jn)), .val (.int (Int32.ofNat mn)), .val (.ref b80), .val (.ref b81), .unset] [])) (fun t k => XS.ifNo X107.here hx rfl (hb hby at_543) rfl ((if0 _ _).trans (feq (by decide)).1) k) ?_
    refine own_by (B := T107.setTop (mkF m 548 #[.val (.long j0), .second, .val (.long j1), .second, .val (.int i2), .val (.int i3), .val (.ref b1), .val (.ref b18), .val (.int (Int32.ofNat n)), .val (.ref b78), .val (.int (Int32.ofNat jn)), .val (.int (Int32.ofNat mn)), .val (.ref b80), .val (.ref b81), .unset] [(.ref b18)])) (fun t k => XS.aload X107.here hx rfl (hb hby at_546) rfl rfl k) ?_
    refine own_by (B := T107.setTop (mkF m 550 #[.val (.long j0), .second, .val (.long j1), .second, .val (.int i2), .val (.int i3), .val (.ref b1), .val (.ref b18), .val (.int (Int32.ofNat n)), .val (.ref b78), .val (.int (Int32.ofNat jn)), .val (.int (Int32.ofNat mn)), .val (.ref b80), .val (.ref b81), .unset] [(.ref b80), (.ref b18)])) (fun t k => XS.aload X107.here hx rfl (hb hby at_548) rfl rfl k) ?_
    refine own_by (B := T107.setTop (mkF m 552 #[.val (.long j0), .second, .val (.long j1), .second, .val (.int i2), .val (.int i3), .val (.ref b1), .val (.ref b18), .val (.int (Int32.ofNat n)), .val (.ref b78), .val (.int (Int32.ofNat jn)), .val (.int (Int32.ofNat mn)), .val (.ref b80), .val (.ref b81), .unset] [(.ref b1), (.ref b80), (.ref b18)])) (fun t k => XS.aload X107.here hx rfl (hb hby at_550) rfl rfl k) ?_
    refine own_by (B := T107.setTop (mkF m 554 #[.val (.long j0), .second, .val (.long j1), .second, .val (.int i2), .val (.int i3), .val (.ref b1), .val (.ref b18), .val (.int (Int32.ofNat n)), .val (.ref b78), .val (.int (Int32.ofNat jn)), .val (.int (Int32.ofNat mn)), .val (.ref b80), .val (.ref b81), .unset] [(.int (12 : Int32)), (.ref b1), (.ref b80), (.ref b18)])) (fun t k => XS.bipush X107.here hx rfl (hb hby at_552) k) ?_
    obtain ⟨xv108, hxv108⟩ := hfp 12 (by omega)
    obtain ⟨_, _, ⟨T109, L109, k109, n109⟩, -, X109, ⟨Lc109, hQ109, l109, y109, z109⟩, st109⟩ := Jvm.LawKit.callS X107 hx (y := (⟨"com/example/palaver/palaver/protocol/FlapLoginRoastPinLaw", "at", "([B[B[BI)Z"⟩ : MethodName)) hown (mvT hZ (hw _ (List.mem_of_getElem? (i := 7) rfl))) (mvT hZ (hw _ (List.mem_of_getElem? (i := 8) rfl))) (mvT hZ (hw _ (List.mem_of_getElem? (i := 9) rfl))) (mvT hZ (hw _ (List.mem_of_getElem? (i := 10) rfl))) (by decide) (backOf (W := 0) (rmA l Z a0 hw [] b18 b80 b1 12 18 fp (own_out fp 18) xv108 T81.heap n0 Zs V_b18 V_b80 V_b1 (by omega) (by omega) hxv108 (own_outv (by omega) hxv108)) hZ (hw _ (List.mem_of_getElem? (i := 10) rfl)) (hw _ (List.mem_of_getElem? (i := 9) rfl)) (by decide) (by decide)) (g := (mkF m 554 #[.val (.long j0), .second, .val (.long j1), .second, .val (.int i2), .val (.int i3), .val (.ref b1), .val (.ref b18), .val (.int (Int32.ofNat n)), .val (.ref b78), .val (.int (Int32.ofNat jn)), .val (.int (Int32.ofNat mn)), .val (.ref b80), .val (.ref b81), .unset] [(.int (12 : Int32)), (.ref b1), (.ref b80), (.ref b18)])) rfl (by rw [hml]; rfl) (argsL := [(.ref b18), (.ref b80), (.ref b1), (.int (12 : Int32))]) (rest := []) (lenOf own_pd1 rfl) rfl (by show 2 * 0 + _ ≤ _; exact Nat.le_of_eq rfl) (hb hby at_554) (fun _ _ => ⟨rfl, ec107, (by decide : 5 + 0 ≤ _), (by decide : 223 + 0 ≤ _)⟩)
    dsimp only [Pt.U, Pt.locs, Pt.cells, Pt.slots] at X109 l109 y109 z109 st109 hQ109
    subst l109 y109 z109
    obtain ⟨rfl, Nq109, hp109⟩ := hQ109
    have Nf := Fr.app Nf Nq109
    obtain ⟨LhX109, X109, Nf⟩ := own_hide X109 Nf
    have ec109 : T109.heap = T81.heap := hp109
    refine own_by (B := T109.setTop (mkF m 557 #[.val (.long j0), .second, .val (.long j1), .second, .val (.int i2), .val (.int i3), .val (.ref b1), .val (.ref b18), .val (.int (Int32.ofNat n)), .val (.ref b78), .val (.int (Int32.ofNat jn)), .val (.int (Int32.ofNat mn)), .val (.ref b80), .val (.ref b81), .unset] [(.int (1 : Int32))])) st109 ?_
    refine own_by (B := T109.setTop (mkF m 560 #[.val (.long j0), .second, .val (.long j1), .second, .val (.int i2), .val (.int i3), .val (.ref b1), .val (.ref b18), .val (.int (Int32.ofNat n)), .val (.ref b78), .val (.int (Int32.ofNat jn)), .val (.int (Int32.ofNat mn)), .val (.ref b80), .val (.ref b81), .unset] [])) (fun t k => XS.ifNo X109.here hx rfl (hb hby at_557) rfl ((if0 _ _).trans (feq (by decide)).1) k) ?_
    refine own_by (B := T109.setTop (mkF m 562 #[.val (.long j0), .second, .val (.long j1), .second, .val (.int i2), .val (.int i3), .val (.ref b1), .val (.ref b18), .val (.int (Int32.ofNat n)), .val (.ref b78), .val (.int (Int32.ofNat jn)), .val (.int (Int32.ofNat mn)), .val (.ref b80), .val (.ref b81), .unset] [(.ref b18)])) (fun t k => XS.aload X109.here hx rfl (hb hby at_560) rfl rfl k) ?_
    refine own_by (B := T109.setTop (mkF m 564 #[.val (.long j0), .second, .val (.long j1), .second, .val (.int i2), .val (.int i3), .val (.ref b1), .val (.ref b18), .val (.int (Int32.ofNat n)), .val (.ref b78), .val (.int (Int32.ofNat jn)), .val (.int (Int32.ofNat mn)), .val (.ref b80), .val (.ref b81), .unset] [(.ref b80), (.ref b18)])) (fun t k => XS.aload X109.here hx rfl (hb hby at_562) rfl rfl k) ?_
    refine own_by (B := T109.setTop (mkF m 566 #[.val (.long j0), .second, .val (.long j1), .second, .val (.int i2), .val (.int i3), .val (.ref b1), .val (.ref b18), .val (.int (Int32.ofNat n)), .val (.ref b78), .val (.int (Int32.ofNat jn)), .val (.int (Int32.ofNat mn)), .val (.ref b80), .val (.ref b81), .unset] [(.ref b1), (.ref b80), (.ref b18)])) (fun t k => XS.aload X109.here hx rfl (hb hby at_564) rfl rfl k) ?_
    refine own_by (B := T109.setTop (mkF m 568 #[.val (.long j0), .second, .val (.long j1), .second, .val (.int i2), .val (.int i3), .val (.ref b1), .val (.ref b18), .val (.int (Int32.ofNat n)), .val (.ref b78), .val (.int (Int32.ofNat jn)), .val (.int (Int32.ofNat mn)), .val (.ref b80), .val (.ref b81), .unset] [(.int (13 : Int32)), (.ref b1), (.ref b80), (.ref b18)])) (fun t k => XS.bipush X109.here hx rfl (hb hby at_566) k) ?_
    obtain ⟨xv110, hxv110⟩ := hfp 13 (by omega)
    obtain ⟨_, _, ⟨T111, L111, k111, n111⟩, -, X111, ⟨Lc111, hQ111, l111, y111, z111⟩, st111⟩ := Jvm.LawKit.callS X109 hx (y := (⟨"com/example/palaver/palaver/protocol/FlapLoginRoastPinLaw", "at", "([B[B[BI)Z"⟩ : MethodName)) hown (mvT hZ (hw _ (List.mem_of_getElem? (i := 7) rfl))) (mvT hZ (hw _ (List.mem_of_getElem? (i := 8) rfl))) (mvT hZ (hw _ (List.mem_of_getElem? (i := 9) rfl))) (mvT hZ (hw _ (List.mem_of_getElem? (i := 10) rfl))) (by decide) (backOf (W := 0) (rmA l Z a0 hw [] b18 b80 b1 13 18 fp (own_out fp 18) xv110 T81.heap n0 Zs V_b18 V_b80 V_b1 (by omega) (by omega) hxv110 (own_outv (by omega) hxv110)) hZ (hw _ (List.mem_of_getElem? (i := 10) rfl)) (hw _ (List.mem_of_getElem? (i := 9) rfl)) (by decide) (by decide)) (g := (mkF m 568 #[.val (.long j0), .second, .val (.long j1), .second, .val (.int i2), .val (.int i3), .val (.ref b1), .val (.ref b18), .val (.int (Int32.ofNat n)), .val (.ref b78), .val (.int (Int32.ofNat jn)), .val (.int (Int32.ofNat mn)), .val (.ref b80), .val (.ref b81), .unset] [(.int (13 : Int32)), (.ref b1), (.ref b80), (.ref b18)])) rfl (by rw [hml]; rfl) (argsL := [(.ref b18), (.ref b80), (.ref b1), (.int (13 : Int32))]) (rest := []) (lenOf own_pd1 rfl) rfl (by show 2 * 0 + _ ≤ _; exact Nat.le_of_eq rfl) (hb hby at_568) (fun _ _ => ⟨rfl, ec109, (by decide : 5 + 0 ≤ _), (by decide : 223 + 0 ≤ _)⟩)
    dsimp only [Pt.U, Pt.locs, Pt.cells, Pt.slots] at X111 l111 y111 z111 st111 hQ111
    subst l111 y111 z111
    obtain ⟨rfl, Nq111, hp111⟩ := hQ111
    have Nf := Fr.app Nf Nq111
    obtain ⟨LhX111, X111, Nf⟩ := own_hide X111 Nf
    have ec111 : T111.heap = T81.heap := hp111
    refine own_by (B := T111.setTop (mkF m 571 #[.val (.long j0), .second, .val (.long j1), .second, .val (.int i2), .val (.int i3), .val (.ref b1), .val (.ref b18), .val (.int (Int32.ofNat n)), .val (.ref b78), .val (.int (Int32.ofNat jn)), .val (.int (Int32.ofNat mn)), .val (.ref b80), .val (.ref b81), .unset] [(.int (1 : Int32))])) st111 ?_
    refine own_by (B := T111.setTop (mkF m 574 #[.val (.long j0), .second, .val (.long j1), .second, .val (.int i2), .val (.int i3), .val (.ref b1), .val (.ref b18), .val (.int (Int32.ofNat n)), .val (.ref b78), .val (.int (Int32.ofNat jn)), .val (.int (Int32.ofNat mn)), .val (.ref b80), .val (.ref b81), .unset] [])) (fun t k => XS.ifNo X111.here hx rfl (hb hby at_571) rfl ((if0 _ _).trans (feq (by decide)).1) k) ?_
    refine own_by (B := T111.setTop (mkF m 576 #[.val (.long j0), .second, .val (.long j1), .second, .val (.int i2), .val (.int i3), .val (.ref b1), .val (.ref b18), .val (.int (Int32.ofNat n)), .val (.ref b78), .val (.int (Int32.ofNat jn)), .val (.int (Int32.ofNat mn)), .val (.ref b80), .val (.ref b81), .unset] [(.ref b18)])) (fun t k => XS.aload X111.here hx rfl (hb hby at_574) rfl rfl k) ?_
    refine own_by (B := T111.setTop (mkF m 578 #[.val (.long j0), .second, .val (.long j1), .second, .val (.int i2), .val (.int i3), .val (.ref b1), .val (.ref b18), .val (.int (Int32.ofNat n)), .val (.ref b78), .val (.int (Int32.ofNat jn)), .val (.int (Int32.ofNat mn)), .val (.ref b80), .val (.ref b81), .unset] [(.ref b80), (.ref b18)])) (fun t k => XS.aload X111.here hx rfl (hb hby at_576) rfl rfl k) ?_
    refine own_by (B := T111.setTop (mkF m 580 #[.val (.long j0), .second, .val (.long j1), .second, .val (.int i2), .val (.int i3), .val (.ref b1), .val (.ref b18), .val (.int (Int32.ofNat n)), .val (.ref b78), .val (.int (Int32.ofNat jn)), .val (.int (Int32.ofNat mn)), .val (.ref b80), .val (.ref b81), .unset] [(.ref b1), (.ref b80), (.ref b18)])) (fun t k => XS.aload X111.here hx rfl (hb hby at_578) rfl rfl k) ?_
    refine own_by (B := T111.setTop (mkF m 582 #[.val (.long j0), .second, .val (.long j1), .second, .val (.int i2), .val (.int i3), .val (.ref b1), .val (.ref b18), .val (.int (Int32.ofNat n)), .val (.ref b78), .val (.int (Int32.ofNat jn)), .val (.int (Int32.ofNat mn)), .val (.ref b80), .val (.ref b81), .unset] [(.int (14 : Int32)), (.ref b1), (.ref b80), (.ref b18)])) (fun t k => XS.bipush X111.here hx rfl (hb hby at_580) k) ?_
    obtain ⟨xv112, hxv112⟩ := hfp 14 (by omega)
    obtain ⟨_, _, ⟨T113, L113, k113, n113⟩, -, X113, ⟨Lc113, hQ113, l113, y113, z113⟩, st113⟩ := Jvm.LawKit.callS X111 hx (y := (⟨"com/example/palaver/palaver/protocol/FlapLoginRoastPinLaw", "at", "([B[B[BI)Z"⟩ : MethodName)) hown (mvT hZ (hw _ (List.mem_of_getElem? (i := 7) rfl))) (mvT hZ (hw _ (List.mem_of_getElem? (i := 8) rfl))) (mvT hZ (hw _ (List.mem_of_getElem? (i := 9) rfl))) (mvT hZ (hw _ (List.mem_of_getElem? (i := 10) rfl))) (by decide) (backOf (W := 0) (rmA l Z a0 hw [] b18 b80 b1 14 18 fp (own_out fp 18) xv112 T81.heap n0 Zs V_b18 V_b80 V_b1 (by omega) (by omega) hxv112 (own_outv (by omega) hxv112)) hZ (hw _ (List.mem_of_getElem? (i := 10) rfl)) (hw _ (List.mem_of_getElem? (i := 9) rfl)) (by decide) (by decide)) (g := (mkF m 582 #[.val (.long j0), .second, .val (.long j1), .second, .val (.int i2), .val (.int i3), .val (.ref b1), .val (.ref b18), .val (.int (Int32.ofNat n)), .val (.ref b78), .val (.int (Int32.ofNat jn)), .val (.int (Int32.ofNat mn)), .val (.ref b80), .val (.ref b81), .unset] [(.int (14 : Int32)), (.ref b1), (.ref b80), (.ref b18)])) rfl (by rw [hml]; rfl) (argsL := [(.ref b18), (.ref b80), (.ref b1), (.int (14 : Int32))]) (rest := []) (lenOf own_pd1 rfl) rfl (by show 2 * 0 + _ ≤ _; exact Nat.le_of_eq rfl) (hb hby at_582) (fun _ _ => ⟨rfl, ec111, (by decide : 5 + 0 ≤ _), (by decide : 223 + 0 ≤ _)⟩)
    dsimp only [Pt.U, Pt.locs, Pt.cells, Pt.slots] at X113 l113 y113 z113 st113 hQ113
    subst l113 y113 z113
    obtain ⟨rfl, Nq113, hp113⟩ := hQ113
    have Nf := Fr.app Nf Nq113
    obtain ⟨LhX113, X113, Nf⟩ := own_hide X113 Nf
    have ec113 : T113.heap = T81.heap := hp113
    refine own_by (B := T113.setTop (mkF m 585 #[.val (.long j0), .second, .val (.long j1), .second, .val (.int i2), .val (.int i3), .val (.ref b1), .val (.ref b18), .val (.int (Int32.ofNat n)), .val (.ref b78), .val (.int (Int32.ofNat jn)), .val (.int (Int32.ofNat mn)), .val (.ref b80), .val (.ref b81), .unset] [(.int (1 : Int32))])) st113 ?_
    refine own_by (B := T113.setTop (mkF m 588 #[.val (.long j0), .second, .val (.long j1), .second, .val (.int i2), .val (.int i3), .val (.ref b1), .val (.ref b18), .val (.int (Int32.ofNat n)), .val (.ref b78), .val (.int (Int32.ofNat jn)), .val (.int (Int32.ofNat mn)), .val (.ref b80), .val (.ref b81), .unset] [])) (fun t k => XS.ifNo X113.here hx rfl (hb hby at_585) rfl ((if0 _ _).trans (feq (by decide)).1) k) ?_
    refine own_by (B := T113.setTop (mkF m 590 #[.val (.long j0), .second, .val (.long j1), .second, .val (.int i2), .val (.int i3), .val (.ref b1), .val (.ref b18), .val (.int (Int32.ofNat n)), .val (.ref b78), .val (.int (Int32.ofNat jn)), .val (.int (Int32.ofNat mn)), .val (.ref b80), .val (.ref b81), .unset] [(.ref b18)])) (fun t k => XS.aload X113.here hx rfl (hb hby at_588) rfl rfl k) ?_
    refine own_by (B := T113.setTop (mkF m 592 #[.val (.long j0), .second, .val (.long j1), .second, .val (.int i2), .val (.int i3), .val (.ref b1), .val (.ref b18), .val (.int (Int32.ofNat n)), .val (.ref b78), .val (.int (Int32.ofNat jn)), .val (.int (Int32.ofNat mn)), .val (.ref b80), .val (.ref b81), .unset] [(.ref b80), (.ref b18)])) (fun t k => XS.aload X113.here hx rfl (hb hby at_590) rfl rfl k) ?_
    refine own_by (B := T113.setTop (mkF m 594 #[.val (.long j0), .second, .val (.long j1), .second, .val (.int i2), .val (.int i3), .val (.ref b1), .val (.ref b18), .val (.int (Int32.ofNat n)), .val (.ref b78), .val (.int (Int32.ofNat jn)), .val (.int (Int32.ofNat mn)), .val (.ref b80), .val (.ref b81), .unset] [(.ref b1), (.ref b80), (.ref b18)])) (fun t k => XS.aload X113.here hx rfl (hb hby at_592) rfl rfl k) ?_
    refine own_by (B := T113.setTop (mkF m 596 #[.val (.long j0), .second, .val (.long j1), .second, .val (.int i2), .val (.int i3), .val (.ref b1), .val (.ref b18), .val (.int (Int32.ofNat n)), .val (.ref b78), .val (.int (Int32.ofNat jn)), .val (.int (Int32.ofNat mn)), .val (.ref b80), .val (.ref b81), .unset] [(.int (15 : Int32)), (.ref b1), (.ref b80), (.ref b18)])) (fun t k => XS.bipush X113.here hx rfl (hb hby at_594) k) ?_
    obtain ⟨xv114, hxv114⟩ := hfp 15 (by omega)
    obtain ⟨_, _, ⟨T115, L115, k115, n115⟩, -, X115, ⟨Lc115, hQ115, l115, y115, z115⟩, st115⟩ := Jvm.LawKit.callS X113 hx (y := (⟨"com/example/palaver/palaver/protocol/FlapLoginRoastPinLaw", "at", "([B[B[BI)Z"⟩ : MethodName)) hown (mvT hZ (hw _ (List.mem_of_getElem? (i := 7) rfl))) (mvT hZ (hw _ (List.mem_of_getElem? (i := 8) rfl))) (mvT hZ (hw _ (List.mem_of_getElem? (i := 9) rfl))) (mvT hZ (hw _ (List.mem_of_getElem? (i := 10) rfl))) (by decide) (backOf (W := 0) (rmA l Z a0 hw [] b18 b80 b1 15 18 fp (own_out fp 18) xv114 T81.heap n0 Zs V_b18 V_b80 V_b1 (by omega) (by omega) hxv114 (own_outv (by omega) hxv114)) hZ (hw _ (List.mem_of_getElem? (i := 10) rfl)) (hw _ (List.mem_of_getElem? (i := 9) rfl)) (by decide) (by decide)) (g := (mkF m 596 #[.val (.long j0), .second, .val (.long j1), .second, .val (.int i2), .val (.int i3), .val (.ref b1), .val (.ref b18), .val (.int (Int32.ofNat n)), .val (.ref b78), .val (.int (Int32.ofNat jn)), .val (.int (Int32.ofNat mn)), .val (.ref b80), .val (.ref b81), .unset] [(.int (15 : Int32)), (.ref b1), (.ref b80), (.ref b18)])) rfl (by rw [hml]; rfl) (argsL := [(.ref b18), (.ref b80), (.ref b1), (.int (15 : Int32))]) (rest := []) (lenOf own_pd1 rfl) rfl (by show 2 * 0 + _ ≤ _; exact Nat.le_of_eq rfl) (hb hby at_596) (fun _ _ => ⟨rfl, ec113, (by decide : 5 + 0 ≤ _), (by decide : 223 + 0 ≤ _)⟩)
    dsimp only [Pt.U, Pt.locs, Pt.cells, Pt.slots] at X115 l115 y115 z115 st115 hQ115
    subst l115 y115 z115
    obtain ⟨rfl, Nq115, hp115⟩ := hQ115
    have Nf := Fr.app Nf Nq115
    obtain ⟨LhX115, X115, Nf⟩ := own_hide X115 Nf
    have ec115 : T115.heap = T81.heap := hp115
    refine own_by (B := T115.setTop (mkF m 599 #[.val (.long j0), .second, .val (.long j1), .second, .val (.int i2), .val (.int i3), .val (.ref b1), .val (.ref b18), .val (.int (Int32.ofNat n)), .val (.ref b78), .val (.int (Int32.ofNat jn)), .val (.int (Int32.ofNat mn)), .val (.ref b80), .val (.ref b81), .unset] [(.int (1 : Int32))])) st115 ?_
    refine own_by (B := T115.setTop (mkF m 602 #[.val (.long j0), .second, .val (.long j1), .second, .val (.int i2), .val (.int i3), .val (.ref b1), .val (.ref b18), .val (.int (Int32.ofNat n)), .val (.ref b78), .val (.int (Int32.ofNat jn)), .val (.int (Int32.ofNat mn)), .val (.ref b80), .val (.ref b81), .unset] [])) (fun t k => XS.ifNo X115.here hx rfl (hb hby at_599) rfl ((if0 _ _).trans (feq (by decide)).1) k) ?_
    refine own_by (B := T115.setTop (mkF m 604 #[.val (.long j0), .second, .val (.long j1), .second, .val (.int i2), .val (.int i3), .val (.ref b1), .val (.ref b18), .val (.int (Int32.ofNat n)), .val (.ref b78), .val (.int (Int32.ofNat jn)), .val (.int (Int32.ofNat mn)), .val (.ref b80), .val (.ref b81), .unset] [(.ref b18)])) (fun t k => XS.aload X115.here hx rfl (hb hby at_602) rfl rfl k) ?_
    refine own_by (B := T115.setTop (mkF m 606 #[.val (.long j0), .second, .val (.long j1), .second, .val (.int i2), .val (.int i3), .val (.ref b1), .val (.ref b18), .val (.int (Int32.ofNat n)), .val (.ref b78), .val (.int (Int32.ofNat jn)), .val (.int (Int32.ofNat mn)), .val (.ref b80), .val (.ref b81), .unset] [(.ref b80), (.ref b18)])) (fun t k => XS.aload X115.here hx rfl (hb hby at_604) rfl rfl k) ?_
    refine own_by (B := T115.setTop (mkF m 608 #[.val (.long j0), .second, .val (.long j1), .second, .val (.int i2), .val (.int i3), .val (.ref b1), .val (.ref b18), .val (.int (Int32.ofNat n)), .val (.ref b78), .val (.int (Int32.ofNat jn)), .val (.int (Int32.ofNat mn)), .val (.ref b80), .val (.ref b81), .unset] [(.ref b1), (.ref b80), (.ref b18)])) (fun t k => XS.aload X115.here hx rfl (hb hby at_606) rfl rfl k) ?_
    refine own_by (B := T115.setTop (mkF m 610 #[.val (.long j0), .second, .val (.long j1), .second, .val (.int i2), .val (.int i3), .val (.ref b1), .val (.ref b18), .val (.int (Int32.ofNat n)), .val (.ref b78), .val (.int (Int32.ofNat jn)), .val (.int (Int32.ofNat mn)), .val (.ref b80), .val (.ref b81), .unset] [(.int (16 : Int32)), (.ref b1), (.ref b80), (.ref b18)])) (fun t k => XS.bipush X115.here hx rfl (hb hby at_608) k) ?_
    obtain ⟨xv116, hxv116⟩ := hfp 16 (by omega)
    obtain ⟨_, _, ⟨T117, L117, k117, n117⟩, -, X117, ⟨Lc117, hQ117, l117, y117, z117⟩, st117⟩ := Jvm.LawKit.callS X115 hx (y := (⟨"com/example/palaver/palaver/protocol/FlapLoginRoastPinLaw", "at", "([B[B[BI)Z"⟩ : MethodName)) hown (mvT hZ (hw _ (List.mem_of_getElem? (i := 7) rfl))) (mvT hZ (hw _ (List.mem_of_getElem? (i := 8) rfl))) (mvT hZ (hw _ (List.mem_of_getElem? (i := 9) rfl))) (mvT hZ (hw _ (List.mem_of_getElem? (i := 10) rfl))) (by decide) (backOf (W := 0) (rmA l Z a0 hw [] b18 b80 b1 16 18 fp (own_out fp 18) xv116 T81.heap n0 Zs V_b18 V_b80 V_b1 (by omega) (by omega) hxv116 (own_outv (by omega) hxv116)) hZ (hw _ (List.mem_of_getElem? (i := 10) rfl)) (hw _ (List.mem_of_getElem? (i := 9) rfl)) (by decide) (by decide)) (g := (mkF m 610 #[.val (.long j0), .second, .val (.long j1), .second, .val (.int i2), .val (.int i3), .val (.ref b1), .val (.ref b18), .val (.int (Int32.ofNat n)), .val (.ref b78), .val (.int (Int32.ofNat jn)), .val (.int (Int32.ofNat mn)), .val (.ref b80), .val (.ref b81), .unset] [(.int (16 : Int32)), (.ref b1), (.ref b80), (.ref b18)])) rfl (by rw [hml]; rfl) (argsL := [(.ref b18), (.ref b80), (.ref b1), (.int (16 : Int32))]) (rest := []) (lenOf own_pd1 rfl) rfl (by show 2 * 0 + _ ≤ _; exact Nat.le_of_eq rfl) (hb hby at_610) (fun _ _ => ⟨rfl, ec115, (by decide : 5 + 0 ≤ _), (by decide : 223 + 0 ≤ _)⟩)
    dsimp only [Pt.U, Pt.locs, Pt.cells, Pt.slots] at X117 l117 y117 z117 st117 hQ117
    subst l117 y117 z117
    obtain ⟨rfl, Nq117, hp117⟩ := hQ117
    have Nf := Fr.app Nf Nq117
    obtain ⟨LhX117, X117, Nf⟩ := own_hide X117 Nf
    have ec117 : T117.heap = T81.heap := hp117
    refine own_by (B := T117.setTop (mkF m 613 #[.val (.long j0), .second, .val (.long j1), .second, .val (.int i2), .val (.int i3), .val (.ref b1), .val (.ref b18), .val (.int (Int32.ofNat n)), .val (.ref b78), .val (.int (Int32.ofNat jn)), .val (.int (Int32.ofNat mn)), .val (.ref b80), .val (.ref b81), .unset] [(.int (1 : Int32))])) st117 ?_
    refine own_by (B := T117.setTop (mkF m 616 #[.val (.long j0), .second, .val (.long j1), .second, .val (.int i2), .val (.int i3), .val (.ref b1), .val (.ref b18), .val (.int (Int32.ofNat n)), .val (.ref b78), .val (.int (Int32.ofNat jn)), .val (.int (Int32.ofNat mn)), .val (.ref b80), .val (.ref b81), .unset] [])) (fun t k => XS.ifNo X117.here hx rfl (hb hby at_613) rfl ((if0 _ _).trans (feq (by decide)).1) k) ?_
    refine own_by (B := T117.setTop (mkF m 618 #[.val (.long j0), .second, .val (.long j1), .second, .val (.int i2), .val (.int i3), .val (.ref b1), .val (.ref b18), .val (.int (Int32.ofNat n)), .val (.ref b78), .val (.int (Int32.ofNat jn)), .val (.int (Int32.ofNat mn)), .val (.ref b80), .val (.ref b81), .unset] [(.ref b18)])) (fun t k => XS.aload X117.here hx rfl (hb hby at_616) rfl rfl k) ?_
    refine own_by (B := T117.setTop (mkF m 620 #[.val (.long j0), .second, .val (.long j1), .second, .val (.int i2), .val (.int i3), .val (.ref b1), .val (.ref b18), .val (.int (Int32.ofNat n)), .val (.ref b78), .val (.int (Int32.ofNat jn)), .val (.int (Int32.ofNat mn)), .val (.ref b80), .val (.ref b81), .unset] [(.ref b80), (.ref b18)])) (fun t k => XS.aload X117.here hx rfl (hb hby at_618) rfl rfl k) ?_
    refine own_by (B := T117.setTop (mkF m 622 #[.val (.long j0), .second, .val (.long j1), .second, .val (.int i2), .val (.int i3), .val (.ref b1), .val (.ref b18), .val (.int (Int32.ofNat n)), .val (.ref b78), .val (.int (Int32.ofNat jn)), .val (.int (Int32.ofNat mn)), .val (.ref b80), .val (.ref b81), .unset] [(.ref b1), (.ref b80), (.ref b18)])) (fun t k => XS.aload X117.here hx rfl (hb hby at_620) rfl rfl k) ?_
    refine own_by (B := T117.setTop (mkF m 624 #[.val (.long j0), .second, .val (.long j1), .second, .val (.int i2), .val (.int i3), .val (.ref b1), .val (.ref b18), .val (.int (Int32.ofNat n)), .val (.ref b78), .val (.int (Int32.ofNat jn)), .val (.int (Int32.ofNat mn)), .val (.ref b80), .val (.ref b81), .unset] [(.int (17 : Int32)), (.ref b1), (.ref b80), (.ref b18)])) (fun t k => XS.bipush X117.here hx rfl (hb hby at_622) k) ?_
    obtain ⟨xv118, hxv118⟩ := hfp 17 (by omega)
    obtain ⟨_, _, ⟨T119, L119, k119, n119⟩, -, X119, ⟨Lc119, hQ119, l119, y119, z119⟩, st119⟩ := Jvm.LawKit.callS X117 hx (y := (⟨"com/example/palaver/palaver/protocol/FlapLoginRoastPinLaw", "at", "([B[B[BI)Z"⟩ : MethodName)) hown (mvT hZ (hw _ (List.mem_of_getElem? (i := 7) rfl))) (mvT hZ (hw _ (List.mem_of_getElem? (i := 8) rfl))) (mvT hZ (hw _ (List.mem_of_getElem? (i := 9) rfl))) (mvT hZ (hw _ (List.mem_of_getElem? (i := 10) rfl))) (by decide) (backOf (W := 0) (rmA l Z a0 hw [] b18 b80 b1 17 18 fp (own_out fp 18) xv118 T81.heap n0 Zs V_b18 V_b80 V_b1 (by omega) (by omega) hxv118 (own_outv (by omega) hxv118)) hZ (hw _ (List.mem_of_getElem? (i := 10) rfl)) (hw _ (List.mem_of_getElem? (i := 9) rfl)) (by decide) (by decide)) (g := (mkF m 624 #[.val (.long j0), .second, .val (.long j1), .second, .val (.int i2), .val (.int i3), .val (.ref b1), .val (.ref b18), .val (.int (Int32.ofNat n)), .val (.ref b78), .val (.int (Int32.ofNat jn)), .val (.int (Int32.ofNat mn)), .val (.ref b80), .val (.ref b81), .unset] [(.int (17 : Int32)), (.ref b1), (.ref b80), (.ref b18)])) rfl (by rw [hml]; rfl) (argsL := [(.ref b18), (.ref b80), (.ref b1), (.int (17 : Int32))]) (rest := []) (lenOf own_pd1 rfl) rfl (by show 2 * 0 + _ ≤ _; exact Nat.le_of_eq rfl) (hb hby at_624) (fun _ _ => ⟨rfl, ec117, (by decide : 5 + 0 ≤ _), (by decide : 223 + 0 ≤ _)⟩)
    dsimp only [Pt.U, Pt.locs, Pt.cells, Pt.slots] at X119 l119 y119 z119 st119 hQ119
    subst l119 y119 z119
    obtain ⟨rfl, Nq119, hp119⟩ := hQ119
    have Nf := Fr.app Nf Nq119
    obtain ⟨LhX119, X119, Nf⟩ := own_hide X119 Nf
    have ec119 : T119.heap = T81.heap := hp119
    refine own_by (B := T119.setTop (mkF m 627 #[.val (.long j0), .second, .val (.long j1), .second, .val (.int i2), .val (.int i3), .val (.ref b1), .val (.ref b18), .val (.int (Int32.ofNat n)), .val (.ref b78), .val (.int (Int32.ofNat jn)), .val (.int (Int32.ofNat mn)), .val (.ref b80), .val (.ref b81), .unset] [(.int (1 : Int32))])) st119 ?_
    refine own_by (B := T119.setTop (mkF m 630 #[.val (.long j0), .second, .val (.long j1), .second, .val (.int i2), .val (.int i3), .val (.ref b1), .val (.ref b18), .val (.int (Int32.ofNat n)), .val (.ref b78), .val (.int (Int32.ofNat jn)), .val (.int (Int32.ofNat mn)), .val (.ref b80), .val (.ref b81), .unset] [])) (fun t k => XS.ifNo X119.here hx rfl (hb hby at_627) rfl ((if0 _ _).trans (feq (by decide)).1) k) ?_
    refine own_by (B := T119.setTop (mkF m 631 #[.val (.long j0), .second, .val (.long j1), .second, .val (.int i2), .val (.int i3), .val (.ref b1), .val (.ref b18), .val (.int (Int32.ofNat n)), .val (.ref b78), .val (.int (Int32.ofNat jn)), .val (.int (Int32.ofNat mn)), .val (.ref b80), .val (.ref b81), .unset] [(.int (1 : Int32))])) (fun t k => XS.iconst X119.here hx rfl (hb hby at_630) k) ?_
    refine own_by (B := T119.setTop (mkF m 635 #[.val (.long j0), .second, .val (.long j1), .second, .val (.int i2), .val (.int i3), .val (.ref b1), .val (.ref b18), .val (.int (Int32.ofNat n)), .val (.ref b78), .val (.int (Int32.ofNat jn)), .val (.int (Int32.ofNat mn)), .val (.ref b80), .val (.ref b81), .unset] [(.int (1 : Int32))])) (fun t k => XS.goto X119.here hx rfl (pc0 := 631) (pc' := 635) rfl (hb hby at_631) (by decide) (by decide) k) ?_
    refine own_by (B := T119.setTop (mkF m 637 #[.val (.long j0), .second, .val (.long j1), .second, .val (.int i2), .val (.int i3), .val (.ref b1), .val (.ref b18), .val (.int (Int32.ofNat n)), .val (.ref b78), .val (.int (Int32.ofNat jn)), .val (.int (Int32.ofNat mn)), .val (.ref b80), .val (.ref b81), .val (.int (1 : Int32))] [])) (fun t k => XS.istore X119.here hx rfl (hb hby at_635) rfl (l' := #[.val (.long j0), .second, .val (.long j1), .second, .val (.int i2), .val (.int i3), .val (.ref b1), .val (.ref b18), .val (.int (Int32.ofNat n)), .val (.ref b78), .val (.int (Int32.ofNat jn)), .val (.int (Int32.ofNat mn)), .val (.ref b80), .val (.ref b81), .val (.int (1 : Int32))]) rfl k) ?_
    refine own_by (B := T119.setTop (mkF m 639 #[.val (.long j0), .second, .val (.long j1), .second, .val (.int i2), .val (.int i3), .val (.ref b1), .val (.ref b18), .val (.int (Int32.ofNat n)), .val (.ref b78), .val (.int (Int32.ofNat jn)), .val (.int (Int32.ofNat mn)), .val (.ref b80), .val (.ref b81), .val (.int (1 : Int32))] [(.int (Int32.ofNat n))])) (fun t k => XS.iload X119.here hx rfl (hb hby at_637) rfl k) ?_
    refine own_by (B := T119.setTop (mkF m 642 #[.val (.long j0), .second, .val (.long j1), .second, .val (.int i2), .val (.int i3), .val (.ref b1), .val (.ref b18), .val (.int (Int32.ofNat n)), .val (.ref b78), .val (.int (Int32.ofNat jn)), .val (.int (Int32.ofNat mn)), .val (.ref b80), .val (.ref b81), .val (.int (1 : Int32))] [])) (fun t k => XS.ifNo X119.here hx rfl (hb hby at_639) rfl ((if0 _ _).trans (tlt hpos).2.2.2) k) ?_
    refine own_by (B := T119.setTop (mkF m 644 #[.val (.long j0), .second, .val (.long j1), .second, .val (.int i2), .val (.int i3), .val (.ref b1), .val (.ref b18), .val (.int (Int32.ofNat n)), .val (.ref b78), .val (.int (Int32.ofNat jn)), .val (.int (Int32.ofNat mn)), .val (.ref b80), .val (.ref b81), .val (.int (1 : Int32))] [(.int (1 : Int32))])) (fun t k => XS.iload X119.here hx rfl (hb hby at_642) rfl k) ?_
    refine own_by (B := T119.setTop (mkF m 647 #[.val (.long j0), .second, .val (.long j1), .second, .val (.int i2), .val (.int i3), .val (.ref b1), .val (.ref b18), .val (.int (Int32.ofNat n)), .val (.ref b78), .val (.int (Int32.ofNat jn)), .val (.int (Int32.ofNat mn)), .val (.ref b80), .val (.ref b81), .val (.int (1 : Int32))] [])) (fun t k => XS.ifNo X119.here hx rfl (hb hby at_644) rfl ((if0 _ _).trans (feq (by decide)).1) k) ?_
    refine own_by (B := T119.setTop (mkF m 649 #[.val (.long j0), .second, .val (.long j1), .second, .val (.int i2), .val (.int i3), .val (.ref b1), .val (.ref b18), .val (.int (Int32.ofNat n)), .val (.ref b78), .val (.int (Int32.ofNat jn)), .val (.int (Int32.ofNat mn)), .val (.ref b80), .val (.ref b81), .val (.int (1 : Int32))] [(.ref b78)])) (fun t k => XS.aload X119.here hx rfl (hb hby at_647) rfl rfl k) ?_
    refine own_by (B := T119.setTop (mkF m 651 #[.val (.long j0), .second, .val (.long j1), .second, .val (.int i2), .val (.int i3), .val (.ref b1), .val (.ref b18), .val (.int (Int32.ofNat n)), .val (.ref b78), .val (.int (Int32.ofNat jn)), .val (.int (Int32.ofNat mn)), .val (.ref b80), .val (.ref b81), .val (.int (1 : Int32))] [(.ref b81), (.ref b78)])) (fun t k => XS.aload X119.here hx rfl (hb hby at_649) rfl rfl k) ?_
    refine own_by (B := T119.setTop (mkF m 653 #[.val (.long j0), .second, .val (.long j1), .second, .val (.int i2), .val (.int i3), .val (.ref b1), .val (.ref b18), .val (.int (Int32.ofNat n)), .val (.ref b78), .val (.int (Int32.ofNat jn)), .val (.int (Int32.ofNat mn)), .val (.ref b80), .val (.ref b81), .val (.int (1 : Int32))] [(.ref b1), (.ref b81), (.ref b78)])) (fun t k => XS.aload X119.here hx rfl (hb hby at_651) rfl rfl k) ?_
    refine own_by (B := T119.setTop (mkF m 655 #[.val (.long j0), .second, .val (.long j1), .second, .val (.int i2), .val (.int i3), .val (.ref b1), .val (.ref b18), .val (.int (Int32.ofNat n)), .val (.ref b78), .val (.int (Int32.ofNat jn)), .val (.int (Int32.ofNat mn)), .val (.ref b80), .val (.ref b81), .val (.int (1 : Int32))] [(.int (Int32.ofNat jn)), (.ref b1), (.ref b81), (.ref b78)])) (fun t k => XS.iload X119.here hx rfl (hb hby at_653) rfl k) ?_
    obtain ⟨xv120, hxv120⟩ := hfq jn (by omega)
    obtain ⟨_, _, ⟨T121, L121, k121, n121⟩, -, X121, ⟨Lc121, hQ121, l121, y121, z121⟩, st121⟩ := Jvm.LawKit.callS X119 hx (y := (⟨"com/example/palaver/palaver/protocol/FlapLoginRoastPinLaw", "at", "([B[B[BI)Z"⟩ : MethodName)) hown (mvT hZ (hw _ (List.mem_of_getElem? (i := 7) rfl))) (mvT hZ (hw _ (List.mem_of_getElem? (i := 8) rfl))) (mvT hZ (hw _ (List.mem_of_getElem? (i := 9) rfl))) (mvT hZ (hw _ (List.mem_of_getElem? (i := 10) rfl))) (by decide) (backOf (W := 0) (rmA l Z a0 hw [] b78 b81 b1 jn n fq (own_out fq n) xv120 T81.heap n0 Zs V_b78 V_b81 V_b1 (by omega) (by omega) hxv120 (own_outv (by omega) hxv120)) hZ (hw _ (List.mem_of_getElem? (i := 10) rfl)) (hw _ (List.mem_of_getElem? (i := 9) rfl)) (by decide) (by decide)) (g := (mkF m 655 #[.val (.long j0), .second, .val (.long j1), .second, .val (.int i2), .val (.int i3), .val (.ref b1), .val (.ref b18), .val (.int (Int32.ofNat n)), .val (.ref b78), .val (.int (Int32.ofNat jn)), .val (.int (Int32.ofNat mn)), .val (.ref b80), .val (.ref b81), .val (.int (1 : Int32))] [(.int (Int32.ofNat jn)), (.ref b1), (.ref b81), (.ref b78)])) rfl (by rw [hml]; rfl) (argsL := [(.ref b78), (.ref b81), (.ref b1), (.int (Int32.ofNat jn))]) (rest := []) (lenOf own_pd1 rfl) rfl (by show 2 * 0 + _ ≤ _; exact Nat.le_of_eq rfl) (hb hby at_655) (fun _ _ => ⟨rfl, ec119, (by decide : 5 + 0 ≤ _), (by decide : 223 + 0 ≤ _)⟩)
    dsimp only [Pt.U, Pt.locs, Pt.cells, Pt.slots] at X121 l121 y121 z121 st121 hQ121
    subst l121 y121 z121
    obtain ⟨rfl, Nq121, hp121⟩ := hQ121
    have Nf := Fr.app Nf Nq121
    obtain ⟨LhX121, X121, Nf⟩ := own_hide X121 Nf
    have ec121 : T121.heap = T81.heap := hp121
    refine own_by (B := T121.setTop (mkF m 658 #[.val (.long j0), .second, .val (.long j1), .second, .val (.int i2), .val (.int i3), .val (.ref b1), .val (.ref b18), .val (.int (Int32.ofNat n)), .val (.ref b78), .val (.int (Int32.ofNat jn)), .val (.int (Int32.ofNat mn)), .val (.ref b80), .val (.ref b81), .val (.int (1 : Int32))] [(.int (1 : Int32))])) st121 ?_
    refine own_by (B := T121.setTop (mkF m 661 #[.val (.long j0), .second, .val (.long j1), .second, .val (.int i2), .val (.int i3), .val (.ref b1), .val (.ref b18), .val (.int (Int32.ofNat n)), .val (.ref b78), .val (.int (Int32.ofNat jn)), .val (.int (Int32.ofNat mn)), .val (.ref b80), .val (.ref b81), .val (.int (1 : Int32))] [])) (fun t k => XS.ifNo X121.here hx rfl (hb hby at_658) rfl ((if0 _ _).trans (feq (by decide)).1) k) ?_
    refine own_by (B := T121.setTop (mkF m 663 #[.val (.long j0), .second, .val (.long j1), .second, .val (.int i2), .val (.int i3), .val (.ref b1), .val (.ref b18), .val (.int (Int32.ofNat n)), .val (.ref b78), .val (.int (Int32.ofNat jn)), .val (.int (Int32.ofNat mn)), .val (.ref b80), .val (.ref b81), .val (.int (1 : Int32))] [(.ref b78)])) (fun t k => XS.aload X121.here hx rfl (hb hby at_661) rfl rfl k) ?_
    refine own_by (B := T121.setTop (mkF m 665 #[.val (.long j0), .second, .val (.long j1), .second, .val (.int i2), .val (.int i3), .val (.ref b1), .val (.ref b18), .val (.int (Int32.ofNat n)), .val (.ref b78), .val (.int (Int32.ofNat jn)), .val (.int (Int32.ofNat mn)), .val (.ref b80), .val (.ref b81), .val (.int (1 : Int32))] [(.ref b81), (.ref b78)])) (fun t k => XS.aload X121.here hx rfl (hb hby at_663) rfl rfl k) ?_
    refine own_by (B := T121.setTop (mkF m 667 #[.val (.long j0), .second, .val (.long j1), .second, .val (.int i2), .val (.int i3), .val (.ref b1), .val (.ref b18), .val (.int (Int32.ofNat n)), .val (.ref b78), .val (.int (Int32.ofNat jn)), .val (.int (Int32.ofNat mn)), .val (.ref b80), .val (.ref b81), .val (.int (1 : Int32))] [(.ref b1), (.ref b81), (.ref b78)])) (fun t k => XS.aload X121.here hx rfl (hb hby at_665) rfl rfl k) ?_
    refine own_by (B := T121.setTop (mkF m 669 #[.val (.long j0), .second, .val (.long j1), .second, .val (.int i2), .val (.int i3), .val (.ref b1), .val (.ref b18), .val (.int (Int32.ofNat n)), .val (.ref b78), .val (.int (Int32.ofNat jn)), .val (.int (Int32.ofNat mn)), .val (.ref b80), .val (.ref b81), .val (.int (1 : Int32))] [(.int (Int32.ofNat mn)), (.ref b1), (.ref b81), (.ref b78)])) (fun t k => XS.iload X121.here hx rfl (hb hby at_667) rfl k) ?_
    obtain ⟨xv122, hxv122⟩ := hfq mn (by omega)
    obtain ⟨_, _, ⟨T123, L123, k123, n123⟩, -, X123, ⟨Lc123, hQ123, l123, y123, z123⟩, st123⟩ := Jvm.LawKit.callS X121 hx (y := (⟨"com/example/palaver/palaver/protocol/FlapLoginRoastPinLaw", "at", "([B[B[BI)Z"⟩ : MethodName)) hown (mvT hZ (hw _ (List.mem_of_getElem? (i := 7) rfl))) (mvT hZ (hw _ (List.mem_of_getElem? (i := 8) rfl))) (mvT hZ (hw _ (List.mem_of_getElem? (i := 9) rfl))) (mvT hZ (hw _ (List.mem_of_getElem? (i := 10) rfl))) (by decide) (backOf (W := 0) (rmA l Z a0 hw [] b78 b81 b1 mn n fq (own_out fq n) xv122 T81.heap n0 Zs V_b78 V_b81 V_b1 (by omega) (by omega) hxv122 (own_outv (by omega) hxv122)) hZ (hw _ (List.mem_of_getElem? (i := 10) rfl)) (hw _ (List.mem_of_getElem? (i := 9) rfl)) (by decide) (by decide)) (g := (mkF m 669 #[.val (.long j0), .second, .val (.long j1), .second, .val (.int i2), .val (.int i3), .val (.ref b1), .val (.ref b18), .val (.int (Int32.ofNat n)), .val (.ref b78), .val (.int (Int32.ofNat jn)), .val (.int (Int32.ofNat mn)), .val (.ref b80), .val (.ref b81), .val (.int (1 : Int32))] [(.int (Int32.ofNat mn)), (.ref b1), (.ref b81), (.ref b78)])) rfl (by rw [hml]; rfl) (argsL := [(.ref b78), (.ref b81), (.ref b1), (.int (Int32.ofNat mn))]) (rest := []) (lenOf own_pd1 rfl) rfl (by show 2 * 0 + _ ≤ _; exact Nat.le_of_eq rfl) (hb hby at_669) (fun _ _ => ⟨rfl, ec121, (by decide : 5 + 0 ≤ _), (by decide : 223 + 0 ≤ _)⟩)
    dsimp only [Pt.U, Pt.locs, Pt.cells, Pt.slots] at X123 l123 y123 z123 st123 hQ123
    subst l123 y123 z123
    obtain ⟨rfl, Nq123, hp123⟩ := hQ123
    have Nf := Fr.app Nf Nq123
    obtain ⟨LhX123, X123, Nf⟩ := own_hide X123 Nf
    have ec123 : T123.heap = T81.heap := hp123
    refine own_by (B := T123.setTop (mkF m 672 #[.val (.long j0), .second, .val (.long j1), .second, .val (.int i2), .val (.int i3), .val (.ref b1), .val (.ref b18), .val (.int (Int32.ofNat n)), .val (.ref b78), .val (.int (Int32.ofNat jn)), .val (.int (Int32.ofNat mn)), .val (.ref b80), .val (.ref b81), .val (.int (1 : Int32))] [(.int (1 : Int32))])) st123 ?_
    refine own_by (B := T123.setTop (mkF m 675 #[.val (.long j0), .second, .val (.long j1), .second, .val (.int i2), .val (.int i3), .val (.ref b1), .val (.ref b18), .val (.int (Int32.ofNat n)), .val (.ref b78), .val (.int (Int32.ofNat jn)), .val (.int (Int32.ofNat mn)), .val (.ref b80), .val (.ref b81), .val (.int (1 : Int32))] [])) (fun t k => XS.ifNo X123.here hx rfl (hb hby at_672) rfl ((if0 _ _).trans (feq (by decide)).1) k) ?_
    refine own_by (B := T123.setTop (mkF m 676 #[.val (.long j0), .second, .val (.long j1), .second, .val (.int i2), .val (.int i3), .val (.ref b1), .val (.ref b18), .val (.int (Int32.ofNat n)), .val (.ref b78), .val (.int (Int32.ofNat jn)), .val (.int (Int32.ofNat mn)), .val (.ref b80), .val (.ref b81), .val (.int (1 : Int32))] [(.int (1 : Int32))])) (fun t k => XS.iconst X123.here hx rfl (hb hby at_675) k) ?_
    refine own_by (B := T123.setTop (mkF m 680 #[.val (.long j0), .second, .val (.long j1), .second, .val (.int i2), .val (.int i3), .val (.ref b1), .val (.ref b18), .val (.int (Int32.ofNat n)), .val (.ref b78), .val (.int (Int32.ofNat jn)), .val (.int (Int32.ofNat mn)), .val (.ref b80), .val (.ref b81), .val (.int (1 : Int32))] [(.int (1 : Int32))])) (fun t k => XS.goto X123.here hx rfl (pc0 := 676) (pc' := 680) rfl (hb hby at_676) (by decide) (by decide) k) ?_
    refine own_by (B := T123.setTop (mkF m 682 #[.val (.long j0), .second, .val (.long j1), .second, .val (.int i2), .val (.int i3), .val (.ref b1), .val (.ref b18), .val (.int (Int32.ofNat n)), .val (.ref b78), .val (.int (Int32.ofNat jn)), .val (.int (Int32.ofNat mn)), .val (.ref b80), .val (.ref b81), .val (.int (1 : Int32))] [])) (fun t k => XS.istore X123.here hx rfl (hb hby at_680) rfl (l' := #[.val (.long j0), .second, .val (.long j1), .second, .val (.int i2), .val (.int i3), .val (.ref b1), .val (.ref b18), .val (.int (Int32.ofNat n)), .val (.ref b78), .val (.int (Int32.ofNat jn)), .val (.int (Int32.ofNat mn)), .val (.ref b80), .val (.ref b81), .val (.int (1 : Int32))]) rfl k) ?_
    refine own_by (B := T123.setTop (mkF m 684 #[.val (.long j0), .second, .val (.long j1), .second, .val (.int i2), .val (.int i3), .val (.ref b1), .val (.ref b18), .val (.int (Int32.ofNat n)), .val (.ref b78), .val (.int (Int32.ofNat jn)), .val (.int (Int32.ofNat mn)), .val (.ref b80), .val (.ref b81), .val (.int (1 : Int32))] [(.int (1 : Int32))])) (fun t k => XS.iload X123.here hx rfl (hb hby at_682) rfl k) ?_
    exact own_end X123 (v := some (.int (1 : Int32))) (fun h => by rw [Bd.returns] at h; cases h) (BodyLoose.notSynchronized Bd) (Q := (Q_rm0 Z j0 j1 i2 i3 wk h0 n0)) (fun fs hr => retN X123 hx (t := .boolean) Bd.returns (by simp) (hb hby at_684) hr) (show (Q_rm0 Z j0 j1 i2 i3 wk h0 n0) _ T123.heap _ from (by rw [ec123]; exact ⟨rfl, Nf⟩)) (by decide) (by decide)
set_option maxRecDepth 65536 in
set_option maxHeartbeats 40000000 in
theorem comes_1 {Post : Tables → Env → Array Value → State → Outcome → State → Prop} (hpost : ∀ tb e args s v u, (limb_1_1.after args s (.returned v) u = true ∧ limb_1_2.after args s (.returned v) u = true ∧ True) → FrameEnd s (.returned v) u (Jvm.fieldLocs frame_1_writes args s ++ Jvm.arrayLocs frame_1_arrays args s ++ Jvm.staticLocs frame_1_statics s) 24 448 → Post tb e args s (.returned v) u) :
    ArmFor flags0 classFile x code maxLocals ret World_1 tables_1 room_1 Calls_1 rest_1 Pre_1 Post := by
  intro l hfl _ _ p e ha hc hk s m args below hf hA hF happ hP
  obtain ⟨hcalls, hrest, hpre⟩ := hP
  obtain ⟨-, -, -, hnamed, -, -, -, hat⟩ := (Spec.applies_iff hf).mp happ
  obtain ⟨hg, hn⟩ := and_e (Cond.before_iff.mp (show (Jvm.Cond.and given_1 narrow_1).before args s = true from hpre))
  obtain ⟨hcount, hg0⟩ := and_e hg
  obtain ⟨hv0, hg1⟩ := and_e hg0
  obtain ⟨hv1, hg2⟩ := and_e hg1
  obtain ⟨hv2, hg3⟩ := and_e hg2
  have hv3 := hg3
  obtain ⟨w0, w1, w2, w3, rfl⟩ : ∃ w0 w1 w2 w3 : Value, args = #[w0, w1, w2, w3] := by
    have hs : args.size = 4 := by simpa [Cond.value, given_1] using hcount
    obtain ⟨L⟩ := args
    match L, hs with
    | [w0, w1, w2, w3], _ => exact ⟨w0, w1, w2, w3, rfl⟩
  have hw := fun d (hd : d ∈ tables_1) => atoms_spec (ws := Jvm.Cond.code x code maxLocals ret :: tables_1) hat d (List.mem_cons_of_mem _ hd)
  have hfit : Fit s := fun {y c} hc i hi => by
    obtain ⟨ha, rfl⟩ := Array.getElem?_eq_some_iff.mp hc
    have q := List.all_eq_true.mp ((Array.all_eq_true_iff_forall_mem.mp hF) _ (Array.getElem_mem ha)) i (List.mem_range.mpr hi)
    simpa [Array.getElem?_eq_getElem hi] using q
  obtain ⟨i0, ei0⟩ := isL_v hv0
  obtain rfl : w0 = (.long i0) := Option.some.inj ei0
  obtain ⟨i1, ei1⟩ := isL_v hv1
  obtain rfl : w1 = (.long i1) := Option.some.inj ei1
  obtain ⟨i2, ei2⟩ := is_v hv2
  obtain rfl : w2 = (.int i2) := Option.some.inj ei2
  obtain ⟨i3, ei3⟩ := is_v hv3
  obtain rfl : w3 = (.int i3) := Option.some.inj ei3
  obtain ⟨hc0, hm0⟩ := and_e hn
  obtain ⟨hc1, hm1⟩ := and_e hm0
  obtain ⟨hc2, hm2⟩ := and_e hm1
  obtain ⟨hc3, hm3⟩ := and_e hm2
  obtain ⟨hc4, hm4⟩ := and_e hm3
  obtain ⟨hc5, hm5⟩ := and_e hm4
  obtain ⟨hc6, hm6⟩ := and_e hm5
  obtain ⟨hc7, hm7⟩ := and_e hm6
  obtain ⟨hc8, hm8⟩ := and_e hm7
  obtain ⟨hc9, hm9⟩ := and_e hm8
  obtain ⟨hc10, hm10⟩ := and_e hm9
  obtain ⟨hc11, hm11⟩ := and_e hm10
  obtain ⟨hc12, hm12⟩ := and_e hm11
  obtain ⟨hc13, hm13⟩ := and_e hm12
  obtain ⟨hc14, hm14⟩ := and_e hm13
  obtain ⟨hc15, hm15⟩ := and_e hm14
  obtain ⟨hc16, hm16⟩ := and_e hm15
  have hc17 := hm16
  obtain ⟨wk, evk⟩ := arr_v hc0
  obtain ⟨clk, Ark⟩ := Arr.start evk hc0
  have S_KEY := Sta.start evk (Or.inr ⟨hw _ (List.mem_of_getElem? (i := 3) rfl), hw _ (List.mem_of_getElem? (i := 6) rfl)⟩)
  have hlen := own_eqi hc1
  have hsz : clk.slots.size = 16 := own_size (n := 16) (by omega) evk (Ark.fin (Vm.Alike.refl _)) hlen
  have V_wk : own_Arf s s.heap wk .byte (16 : Int32) (fun t => .int (own_key t)) := ⟨clk, Ark, hsz, by decide, fun t ht => by
    rw [hsz] at ht
    rcases (show t = 0 ∨ t = 1 ∨ t = 2 ∨ t = 3 ∨ t = 4 ∨ t = 5 ∨ t = 6 ∨ t = 7 ∨ t = 8 ∨ t = 9 ∨ t = 10 ∨ t = 11 ∨ t = 12 ∨ t = 13 ∨ t = 14 ∨ t = 15 by omega) with rfl | rfl | rfl | rfl | rfl | rfl | rfl | rfl | rfl | rfl | rfl | rfl | rfl | rfl | rfl | rfl
    · exact (elem_in (own_eqi hc2) evk rfl Ark.1).2
    · exact (elem_in (own_eqi hc3) evk rfl Ark.1).2
    · exact (elem_in (own_eqi hc4) evk rfl Ark.1).2
    · exact (elem_in (own_eqi hc5) evk rfl Ark.1).2
    · exact (elem_in (own_eqi hc6) evk rfl Ark.1).2
    · exact (elem_in (own_eqi hc7) evk rfl Ark.1).2
    · exact (elem_in (own_eqi hc8) evk rfl Ark.1).2
    · exact (elem_in (own_eqi hc9) evk rfl Ark.1).2
    · exact (elem_in (own_eqi hc10) evk rfl Ark.1).2
    · exact (elem_in (own_eqi hc11) evk rfl Ark.1).2
    · exact (elem_in (own_eqi hc12) evk rfl Ark.1).2
    · exact (elem_in (own_eqi hc13) evk rfl Ark.1).2
    · exact (elem_in (own_eqi hc14) evk rfl Ark.1).2
    · exact (elem_in (own_eqi hc15) evk rfl Ark.1).2
    · exact (elem_in (own_eqi hc16) evk rfl Ark.1).2
    · exact (elem_in (own_eqi hc17) evk rfl Ark.1).2⟩
  obtain ⟨n, o, h1, h2, h3, _, L, rfl, ⟨rfl, N⟩, hq⟩ := rm0 l s _ hw tables_1 i0 i1 i2 i3 wk s.heap s.heap.size (Nat.le_refl _) V_wk S_KEY p e ha hc hk s m _ below hf ((Spec.applies_iff_loose hf).mp happ).1 ⟨rfl, State.Warmed39.refl s, rfl⟩ trivial
  refine ⟨n, _, h1, h2, h3, hpost _ _ _ _ _ _ ⟨Cond.after_iff.mpr rfl, Cond.after_iff.mpr (eq_i res_at (Term.int_eval (1)) rfl), trivial⟩ ⟨hq.1, hq.2.1, (hq.2.2.sift fun y hy => Or.inr (N y hy)).mono (by decide) (by decide)⟩⟩
theorem main_1_1 : Claimed_1_1 := comes_1 fun _ _ _ _ _ _ h hF => ⟨h.1, hF⟩
theorem main_1_2 : Claimed_1_2 := comes_1 fun _ _ _ _ _ _ h hF => ⟨h.2.1, hF⟩
end Jvm.Pilot.@@N@@
namespace Jvm.Pilot.@@N@@
open Jvm Jvm.ClassFile Sem Op Lib Jvm.Free Jvm.Stand Jvm.Pilot.@@N@@.Jvm.D
/-! MADE BY PROGRAM (witnessworld.py) out of the Statement's table words and the real class files: 9 classes; the members and pool entries that the words name. The judged class is class 1, her method 2. -/
namespace start1
open Jvm.ClassFile
def u (s : String) : CpInfo := .utf8 (stringToUtf16 s)
/-- a pool by its gaps: so many unusable entries, then the entry; so many at the end -/
def gap : Nat → List CpInfo → List CpInfo
  | 0, r => r
  | n + 1, r => .unusable :: gap n r
def poolList (es : List (Nat × CpInfo)) (last : Nat) : List CpInfo := es.foldr (fun e r => gap e.1 (e.2 :: r)) (gap last [])
def pool (es : List (Nat × CpInfo)) (last : Nat) : Array CpInfo := ⟨poolList es last⟩
def fileOf (pool : Array CpInfo) (this : Nat) (attrs : Array Attribute := #[]) (ms : Array MethodInfo := #[]) (fl : Nat := 33) (sup : Nat := 0) (ifs : Array Nat := #[]) (fds : Array FieldInfo := #[]) : ClassFile where
  minorVersion := 0
  majorVersion := 65
  constantPool := pool
  accessFlags := fl
  thisClass := this
  superClass := sup
  interfaces := ifs
  fields := fds
  methods := ms
  attributes := attrs
def plain (name : String) (sup : Option ClassId) : Class where
  name := name
  kind := .ordinary
  loader := none
  accessFlags := 33
  super := sup
  interfaces := #[]
  cf := none
  fields := #[]
  methods := #[]
  instanceTypes := #[]
  staticTypes := #[]
  resolved := #[]
  callSites := []
  init := .initialized
  statics := none
  mirror := none

def pool0 : Array CpInfo := pool [(5, u "<init>"), (0, u "()V"), (1, .class_ 10), (1, u "java/lang/Object")] 113

def k0m0 : Method := { name := "<init>", desc := "()V", sig := { parameters := [], returnType := none }, accessFlags := 1, code := none }
/-- java/lang/Object -/
def k0 : Class := { plain "java/lang/Object" none with
  accessFlags := 33
  interfaces := #[]
  cf := some (fileOf pool0 8 #[] #[{ accessFlags := 1, nameIndex := 5, descriptorIndex := 6, attributes := #[] }] 33 0 #[] #[])
  fields := #[]
  methods := #[k0m0]
  instanceTypes := #[]
  staticTypes := #[]
  resolved := Array.replicate 124 none
  statics := none }

def pool1 : Array CpInfo := pool [(2, .class_ 4), (1, u "java/lang/Object"), (0, u "<init>"), (0, u "()V"), (0, .methodref 8 9), (0, .class_ 10), (0, .nameAndType 11 12), (0, u "com/example/palaver/palaver/protocol/FlapLogin"), (0, u "roast"), (0, u "([B)[B"), (0, .methodref 14 15), (0, .class_ 16), (0, .nameAndType 17 18), (0, u "com/example/palaver/palaver/protocol/FlapLoginRoastPinLaw"), (0, u "at"), (0, u "([B[B[BI)Z"), (3, u "law"), (0, u "(JJII)Z")] 4

def k1m0 : Method := { name := "<init>", desc := "()V", sig := { parameters := [], returnType := none }, accessFlags := 2, code := none }
def k1c1 : Code := { maxStack := 5, maxLocals := 4, code := method_2_code, exceptionTable := #[], attributes := #[] }
def k1m1 : Method := { name := "at", desc := "([B[B[BI)Z", sig := { parameters := [(.array .byte), (.array .byte), (.array .byte), .int], returnType := some .boolean }, accessFlags := 10, code := some k1c1 }
def k1c2 : Code := { maxStack := 5, maxLocals := 15, code := code, exceptionTable := #[], attributes := #[] }
def k1m2 : Method := { name := "law", desc := "(JJII)Z", sig := { parameters := [.long, .long, .int, .int], returnType := some .boolean }, accessFlags := 9, code := some k1c2 }
/-- com/example/palaver/palaver/protocol/FlapLoginRoastPinLaw -/
def k1 : Class := { plain "com/example/palaver/palaver/protocol/FlapLoginRoastPinLaw" (some 0) with
  accessFlags := 49
  interfaces := #[]
  cf := some (fileOf pool1 14 #[] #[{ accessFlags := 2, nameIndex := 5, descriptorIndex := 6, attributes := #[] }, { accessFlags := 10, nameIndex := 17, descriptorIndex := 18, attributes := #[] }, { accessFlags := 9, nameIndex := 22, descriptorIndex := 23, attributes := #[] }] 49 2 #[] #[])
  fields := #[]
  methods := #[k1m0, k1m1, k1m2]
  instanceTypes := #[]
  staticTypes := #[]
  resolved := Array.replicate 28 none
  statics := none }

def pool2 : Array CpInfo := pool [(2, .class_ 4), (1, u "java/lang/Object"), (0, u "<init>"), (0, u "()V"), (0, .fieldref 8 9), (0, .class_ 10), (0, .nameAndType 11 12), (0, u "com/example/palaver/palaver/protocol/FlapLogin"), (0, u "ROAST_KEY"), (0, u "[B"), (14, u "roast"), (0, u "([B)[B")] 5

def k2m0 : Method := { name := "<init>", desc := "()V", sig := { parameters := [], returnType := none }, accessFlags := 2, code := none }
def k2c1 : Code := { maxStack := 6, maxLocals := 3, code := prog_47_method_2_code, exceptionTable := #[], attributes := #[] }
def k2m1 : Method := { name := "roast", desc := "([B)[B", sig := { parameters := [(.array .byte)], returnType := some (.array .byte) }, accessFlags := 9, code := some k2c1 }
/-- com/example/palaver/palaver/protocol/FlapLogin -/
def k2 : Class := { plain "com/example/palaver/palaver/protocol/FlapLogin" (some 0) with
  accessFlags := 49
  interfaces := #[]
  cf := some (fileOf pool2 8 #[] #[{ accessFlags := 2, nameIndex := 5, descriptorIndex := 6, attributes := #[] }, { accessFlags := 9, nameIndex := 27, descriptorIndex := 28, attributes := #[] }] 49 2 #[] #[{ accessFlags := 26, nameIndex := 11, descriptorIndex := 12, attributes := #[] }])
  fields := #[{ name := "ROAST_KEY", type := (.array .byte), accessFlags := 26, slot := 0, constantValue := 0 }]
  methods := #[k2m0, k2m1]
  instanceTypes := #[]
  staticTypes := #[(.array .byte)]
  resolved := Array.replicate 34 none
  statics := some 0 }

def pool3 : Array CpInfo := pool [(1, u "java/lang/Cloneable"), (0, .class_ 1), (0, u "java/lang/Object"), (0, .class_ 3)] 3

/-- java/lang/Cloneable -/
def k3 : Class := { plain "java/lang/Cloneable" (some 0) with
  accessFlags := 1537
  interfaces := #[]
  cf := some (fileOf pool3 2 #[] #[] 1537 4 #[] #[])
  fields := #[]
  methods := #[]
  instanceTypes := #[]
  staticTypes := #[]
  resolved := Array.replicate 8 none
  statics := none }

def pool4 : Array CpInfo := pool [(1, u "java/io/Serializable"), (0, .class_ 1), (0, u "java/lang/Object"), (0, .class_ 3)] 3

/-- java/io/Serializable -/
def k4 : Class := { plain "java/io/Serializable" (some 0) with
  accessFlags := 1537
  interfaces := #[]
  cf := some (fileOf pool4 2 #[] #[] 1537 4 #[] #[])
  fields := #[]
  methods := #[]
  instanceTypes := #[]
  staticTypes := #[]
  resolved := Array.replicate 8 none
  statics := none }

/-- the primitive byte -/
def k5 : Class := { plain "byte" none with kind := .primitive 'B', accessFlags := 0x411 }
/-- [B -/
def k6 : Class := { plain "[B" (some 0) with kind := .array 5 .byte, interfaces := #[3, 4], accessFlags := 1041 }

/-- the primitive int -/
def k7 : Class := { plain "int" none with kind := .primitive 'I', accessFlags := 0x411 }
/-- [I -/
def k8 : Class := { plain "[I" (some 0) with kind := .array 7 .int, interfaces := #[3, 4], accessFlags := 1041 }

def heap : Heap := #[{ cls := 2, slots := #[.ref 1], vm := .statics 2 },
  { cls := 6, slots := #[.int (-13), .int 38, .int (-127), .int (-60), .int 57, .int (-122), .int (-37), .int (-110), .int 113, .int (-93), .int (-71), .int (-26), .int 83, .int 122, .int (-107), .int 124], vm := .none }]
def classes : Array Class := #[k0, k1, k2, k3, k4, k5, k6, k7, k8]
def interned : List (Array UInt16 × Addr) := []
def slotsUsed : Nat := 17
def theMethod : MethodId := ⟨1, 2⟩
def args0 : Array Value := #[.long 2, .long 3, .int 4, .int 5]
def aboutOver (below : List Frame) : State where
  vm := { classes := classes, interned := interned.toArray }
  heap := heap
  slotsUsed := slotsUsed
  threads := #[{ frames := .invoking theMethod args0 :: below }]
def below0 : List Frame := [.native { method := ⟨0, 0⟩, args := #[] }]
def about1 : State := aboutOver below0
def p0 : Program := .bare "" "" ""
def e0 : Env := launch0.env 0 0 0
theorem w_frames : about1.frames = Frame.invoking theMethod args0 :: below0 := rfl
set_option maxRecDepth 65536 in
theorem w_args : argsFit about1.vm theMethod args0 = true := by decide +kernel
set_option maxRecDepth 65536 in
theorem w_heap : heapFits about1 = true := by decide +kernel
set_option maxRecDepth 65536 in
theorem w_runnable : about1.curStatus? = some .runnable := by decide +kernel
set_option maxRecDepth 65536 in
theorem w_alone : about1.alone = true := by decide +kernel
set_option maxRecDepth 65536 in
theorem w_named : about1.methodNamed? x = some theMethod := by decide +kernel
set_option maxRecDepth 65536 in
theorem w_hears : about1.hears theMethod below0 = true := by decide +kernel
set_option maxRecDepth 65536 in
theorem w_ripe : about1.ripe theMethod args0 below0 = true := by decide +kernel
theorem w_running : about1.status = .running := rfl
set_option maxRecDepth 65536 in
theorem w_room : about1.hasRoom e0.platform room_1 = true :=
  launch0.hasRoom_least _ room_1 (by decide +kernel) (by decide +kernel) (by decide +kernel) (by decide +kernel) (by decide +kernel) (by decide +kernel)
theorem allAtoms_all (ts : List Jvm.Cond) (a : Array Jvm.Value) (st : Jvm.State) : (allAtoms ts).before a st = ts.all (fun c => c.before a st) := by
  induction ts with
  | nil => rfl
  | cons c t ih =>
    show (Jvm.Cond.and c (allAtoms t)).before a st = _
    rw [Jvm.Cond.before_and, ih, List.all_cons]
def words1 : List Jvm.Cond := Jvm.Cond.code x code maxLocals ret :: tables_1
/-- a 'code' word, met by the world's own term for the bytes: nothing is compared byte by byte -/
theorem code_word {y : MethodName} {bytes : ByteArray} {mx : Nat} {rt : Option FieldType} {a : Array Value} {s : State} {m : MethodId} {meth : Method} {c : Code} (h1 : s.methodNamed? y = some m) (h2 : s.vm.method? m = some meth) (h3 : meth.code = some c) (h4 : c.code = bytes)
    (h5 : (c.maxLocals == mx && c.exceptionTable.isEmpty && decide (c.maxStack ≤ mostOperands) && decide (meth.sig.returnType = rt) && !meth.locks && decide (parseMethodDescriptor y.desc = some meth.sig)) = true) : (Jvm.Cond.code y bytes mx rt).before a s = true := by
  simp only [Bool.and_eq_true, beq_iff_eq, Bool.not_eq_true', decide_eq_true_eq] at h5
  obtain ⟨⟨⟨⟨⟨g1, g2⟩, g3⟩, g4⟩, g5⟩, g6⟩ := h5
  simp [Cond.before, Cond.holds, Cond.value, h1, h2, h3, h4, g1, g2, g3, g4, g5, g6]
def isCode : Jvm.Cond → Bool
  | .code _ _ _ _ => true
  | _ => false
theorem all_split {L : List Jvm.Cond} {P : Jvm.Cond → Bool} (h1 : L.all (fun c => isCode c || P c) = true) (h2 : ∀ c ∈ L.filter isCode, P c = true) : L.all P = true := by
  refine List.all_eq_true.mpr fun c hc => ?_
  have h := List.all_eq_true.mp h1 c hc
  rcases Bool.eq_false_or_eq_true (isCode c) with hi | hi
  · exact h2 c (List.mem_filter.mpr ⟨hc, hi⟩)
  · simpa [hi] using h
set_option maxRecDepth 65536 in
theorem w_c0 : (Jvm.Cond.code x code maxLocals ret).before args0 about1 = true := code_word (m := ⟨1, 2⟩) (meth := k1m2) (c := k1c2) (by decide +kernel) rfl rfl rfl (by decide +kernel)
set_option maxRecDepth 65536 in
theorem w_c1 : (Jvm.Cond.code ({ cls := "com/example/palaver/palaver/protocol/FlapLogin", name := "roast", desc := "([B)[B" } : Jvm.MethodName) prog_47_method_2_code (3 : Nat) (Option.some (Jvm.ClassFile.FieldType.array Jvm.ClassFile.FieldType.byte))).before args0 about1 = true := code_word (m := ⟨2, 1⟩) (meth := k2m1) (c := k2c1) (by decide +kernel) rfl rfl rfl (by decide +kernel)
set_option maxRecDepth 65536 in
theorem w_c2 : (Jvm.Cond.code ({ cls := "com/example/palaver/palaver/protocol/FlapLoginRoastPinLaw", name := "at", desc := "([B[B[BI)Z" } : Jvm.MethodName) method_2_code (4 : Nat) (Option.some Jvm.ClassFile.FieldType.boolean)).before args0 about1 = true := code_word (m := ⟨1, 1⟩) (meth := k1m1) (c := k1c1) (by decide +kernel) rfl rfl rfl (by decide +kernel)
def codes1 : List Jvm.Cond := [Jvm.Cond.code x code maxLocals ret, Jvm.Cond.code ({ cls := "com/example/palaver/palaver/protocol/FlapLogin", name := "roast", desc := "([B)[B" } : Jvm.MethodName) prog_47_method_2_code (3 : Nat) (Option.some (Jvm.ClassFile.FieldType.array Jvm.ClassFile.FieldType.byte)), Jvm.Cond.code ({ cls := "com/example/palaver/palaver/protocol/FlapLoginRoastPinLaw", name := "at", desc := "([B[B[BI)Z" } : Jvm.MethodName) method_2_code (4 : Nat) (Option.some Jvm.ClassFile.FieldType.boolean)]
set_option maxRecDepth 65536 in
theorem codes_eq : words1.filter isCode = codes1 := rfl
theorem w_codes : ∀ c ∈ words1.filter isCode, c.before args0 about1 = true := by
  rw [codes_eq]
  intro c hc
  simp only [codes1, List.mem_cons, List.not_mem_nil, or_false] at hc
  rcases hc with rfl | rfl | rfl
  · exact w_c0
  · exact w_c1
  · exact w_c2
set_option maxRecDepth 65536 in
theorem w_t1 : words1.all (fun c => isCode c || c.before args0 about1) = true := by decide +kernel
theorem w_tables : (allAtoms (Jvm.Cond.code x code maxLocals ret :: tables_1)).before args0 about1 = true := by
  rw [allAtoms_all]
  show words1.all (fun c => c.before args0 about1) = true
  refine all_split ?_ w_codes
  rw [w_t1]
set_option maxRecDepth 65536 in
theorem w_case : (Jvm.Cond.and given_1 narrow_1).before args0 about1 = true := by decide +kernel
theorem w_applies : (headSpec (Jvm.Cond.code x code maxLocals ret :: tables_1) room_1).applies x e0.platform about1 = true :=
  (Spec.applies_iff w_frames).mpr ⟨w_running, w_runnable, w_alone, w_named, w_hears, w_ripe, w_room, w_tables⟩
theorem atStart : AtStart classFile x code maxLocals ret World_1 tables_1 room_1 Calls_1 rest_1 Pre_1 launch0 p0 e0 about1 theMethod args0 below0 :=
  ⟨lists_1, trivial, launch0.admits_env _ _ _, launch0.least_env, fairChoices_fair.cas, fairChoices_fair.clock, w_frames, w_args, w_heap, w_applies, trivial, trivial, w_case⟩
end start1
theorem witness_1 : WitnessClaimed_1 := ⟨start1.p0, start1.e0, start1.about1, start1.theMethod, start1.args0, start1.below0, start1.atStart⟩
end Jvm.Pilot.@@N@@
