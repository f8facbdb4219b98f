import JvmDerived
import JvmDerived.Pilot.@@N@@Statement
import JvmDerived.Pilot.@@N@@Code
set_option linter.unusedVariables false
set_option linter.unusedSimpArgs false
namespace Jvm.Pilot.@@N@@
open Jvm Jvm.ClassFile Sem Op Lib Jvm.Free Jvm.Stand Jvm.LawKit Jvm.RoadKit Bundle Jvm.Pilot.@@N@@.Jvm.D
/-- from S the run comes to a state that P allows -/
def Comes (p : Program) (e : Env) (below : List Frame) (P : State → Prop) (S : State) : Prop := ∃ S', Steps p.tables e below S S' ∧ P S'
/-- how a body ends that Q allows -/
def EndsAt (below : List Frame) (s : State) (Q : Option Value → Heap → List Loc → Prop) (kc ks : Nat) (s₂ : State) : Prop := ∃ o, s₂.status = .running ∧ Ended s₂ below o ∧ ∃ v L, o = .returned v ∧ Q v s₂.heap L ∧ FrameEnd s o s₂ L kc ks
/-- an array of ints, its content a function -/
def Ari (Z : State) (h : Heap) (a : Nat) (n : Nat) (f : Nat → Int32) : Prop := ∃ c : Cell, Arr Z h a c .int ∧ c.slots.size = n ∧ ∀ i, i < n → c.slots[i]? = some (.int (f i))
section OwnAri
variable {Z : State} {h h' : Heap} {a b n sl : Nat} {f : Nat → Int32} {v : Value} {ws : List Addr}
theorem Ari.lt (F : Ari Z h a n f) : a < h.size := by obtain ⟨c, A, -⟩ := F; exact A.lt
theorem Ari.ext (F : Ari Z h a n f) (E : Ext h h') : Ari Z h' a n f := by obtain ⟨c, A, r⟩ := F; exact ⟨c, A.ext E, r⟩
theorem Ari.other (F : Ari Z h b n f) (W : Wr h h' a sl v) (q : b ≠ a) : Ari Z h' b n f := by obtain ⟨c, A, r⟩ := F; exact ⟨c, A.other W q, r⟩
theorem Ari.keep (F : Ari Z h a n f) (K : Keep h h' ws) (q : a ∉ ws) : Ari Z h' a n f := by obtain ⟨c, A, r⟩ := F; exact ⟨c, ⟨K.2.1 a c A.1 q, A.2⟩, r⟩
theorem Ari.new {k : ClassId} {z : Int32} (A : Arr Z h a (newA k .int z) .int) (q : z.toNatClampNeg = n) : Ari Z h a n (fun _ => 0) := by
  refine ⟨_, A, by rw [sz_new, q], fun i hi => ?_⟩
  simp [newA, q, hi, defaultValue]
theorem Ari.set {c : Cell} (A : Arr Z h a c .int) (S : c.slots.size = n) (H : ∀ i, i < n → c.slots[i]? = some (.int (f i))) {j x : Int32} {k : Nat} (W : Wr h h' a j.toNatClampNeg (.int x)) (hk : j.toNatClampNeg = k) : Ari Z h' a n (fun i => if i = k then x else f i) := by
  subst hk
  refine ⟨_, A.same W, by rw [sz_set]; exact S, fun i hi => ?_⟩
  by_cases q : i = j.toNatClampNeg
  · subst q; simp [Cell.setSlot, S, hi]
  · show _ = some (Value.int (if i = j.toNatClampNeg then x else f i))
    rw [if_neg q, ← H i hi]; exact Array.getElem?_setIfInBounds_ne (fun z => q z.symm)
end OwnAri
section Own
variable {p : Program} {l : Launch} {e : Env} {R : Room} {s : State} {m : MethodId} {args : Array Value} {below : List Frame} {meth : Method} {c : Code} {T : State} {locs : List Loc} {cells slots : Nat} {Q : Option Value → Heap → List Loc → Prop} {kc ks : Nat} {P : State → Prop} {S S' : State} {h : Heap}
theorem Comes.here (q : P S) : Comes p e below P S := ⟨S, Steps.refl _, q⟩
theorem Comes.st (f : ∀ t, Steps p.tables e below S' t → Steps p.tables e below S t) (g : Comes p e below P S') : Comes p e below P S := by
  obtain ⟨s₂, h1, r⟩ := g; exact ⟨s₂, f _ h1, r⟩
theorem Comes.go (f : Steps p.tables e below S S') (g : Comes p e below P S') : Comes p e below P S := by
  obtain ⟨s₂, h1, r⟩ := g; exact ⟨s₂, f.trans h1, r⟩
theorem Comes.cast {g g' : JFrame} (q : g = g') (k : Comes p e below P (T.setTop g')) : Comes p e below P (T.setTop g) := q ▸ k
theorem Comes.out (h : Comes p e below (EndsAt below s Q kc ks) S) : ∃ s₂ o, Steps p.tables e below S s₂ ∧ s₂.status = .running ∧ Ended s₂ below o ∧ ∃ v L, o = .returned v ∧ Q v s₂.heap L ∧ FrameEnd s o s₂ L kc ks := by
  obtain ⟨s₂, h1, o, r⟩ := h; exact ⟨s₂, o, h1, r⟩
theorem Comes.fin (X : Stand p l e R s m args below meth c T locs cells slots) {v : Option Value} (hv : meth.sig.returnType = none → v = none) (hlk : meth.locks = false)
    (hs : ∀ fs, (∀ (f : JFrame) (acts : List Action), f.method = m → f.locked = none → f.entered = [] → (doReturn e (T.setTop f) acts v).1 = T.setFrames fs) → Steps p.tables e below S (T.setFrames fs))
    (eT : T.heap = h) (hq : Q v h locs) (hc : cells ≤ kc) (hl : slots ≤ ks) : Comes p e below (EndsAt below s Q kc ks) S := by
  obtain ⟨fs, hr, hrun, hended, hW, hsame⟩ := X.leave (v := v) hv hlk
  exact ⟨_, hs fs hr, _, hrun, hended, _, _, rfl, (show Q v T.heap locs from by rw [eT]; exact hq), ⟨_, rfl⟩, hW, hsame.mono hc hl⟩
theorem Comes.ret0 (X : Stand p l e R s m args below meth c T locs cells slots) (hx : p.tables.exec = Jvm.exec) {pc : Nat} {Ls : Array Slot} (hret : meth.sig.returnType = none) (hlk : meth.locks = false) (hd : decode c.code pc = .ok (.return_, 1))
    (eT : T.heap = h) (hq : Q none h locs) (hc : cells ≤ kc) (hl : slots ≤ ks) : Comes p e below (EndsAt below s Q kc ks) (T.setTop (mkF m pc Ls [])) :=
  Comes.fin X (fun _ => rfl) hlk (fun _ hr => X.returnOut hx hret hd hr) eT hq hc hl
theorem Comes.retN (X : Stand p l e R s m args below meth c T locs cells slots) (hx : p.tables.exec = Jvm.exec) {pc : Nat} {Ls : Array Slot} {z : Int32} {t : FieldType} {rest : List Value} (hret : meth.sig.returnType = some t) (ht : t = .boolean ∨ t = .byte ∨ t = .char ∨ t = .short) (hlk : meth.locks = false) (hd : decode c.code pc = .ok (.ireturn, 1))
    (eT : T.heap = h) (hq : Q (some (.int (nar t z))) h locs) (hc : cells ≤ kc) (hl : slots ≤ ks) : Comes p e below (EndsAt below s Q kc ks) (T.setTop (mkF m pc Ls (.int z :: rest))) :=
  Comes.fin X (fun q => by rw [hret] at q; cases q) hlk (fun _ hr => Jvm.RoadKit.retN X hx hret ht hd hr) eT hq hc hl
theorem Comes.retV (X : Stand p l e R s m args below meth c T locs cells slots) (hx : p.tables.exec = Jvm.exec) {pc : Nat} {Ls : Array Slot} {w : Value} {t : FieldType} {i : Instr} {rest : List Value} (hret : meth.sig.returnType = some t) (hn : narrow t w = w)
    (hi : (i = .ireturn ∧ (t = .int ∨ t = .boolean ∨ t = .byte ∨ t = .char ∨ t = .short) ∧ ∃ z, w = .int z) ∨ (i = .lreturn ∧ t = .long ∧ ∃ z, w = .long z) ∨ (i = .dreturn ∧ t = .double ∧ ∃ z, w = .double z) ∨ (i = .freturn ∧ t = .float ∧ ∃ z, w = .float z) ∨ (i = .areturn ∧ t.isReference = true ∧ w.isRef = true))
    (hlk : meth.locks = false) (hd : decode c.code pc = .ok (i, 1))
    (eT : T.heap = h) (hq : Q (some w) h locs) (hc : cells ≤ kc) (hl : slots ≤ ks) : Comes p e below (EndsAt below s Q kc ks) (T.setTop (mkF m pc Ls (w :: rest))) :=
  Comes.fin X (fun q => by rw [hret] at q; cases q) hlk (fun _ hr => retOut X hx hret hn hi hd hr) eT hq hc hl
/-- the same where the frame is the wide one -/
def EndsAtW (below : List Frame) (s : State) (Q : Option Value → Heap → List Loc → Prop) (kc ks : Nat) (s₂ : State) : Prop := ∃ o, s₂.status = .running ∧ Ended s₂ below o ∧ ∃ v L, o = .returned v ∧ Q v s₂.heap L ∧ ReturnedEndW s o s₂ L kc ks
theorem Comes.outW (h : Comes p e below (EndsAtW below s Q kc ks) S) : ∃ s₂ o, Steps p.tables e below S s₂ ∧ s₂.status = .running ∧ Ended s₂ below o ∧ ∃ v L, o = .returned v ∧ Q v s₂.heap L ∧ ReturnedEndW s o s₂ L kc ks := by
  obtain ⟨s₂, h1, o, r⟩ := h; exact ⟨s₂, o, h1, r⟩
theorem Comes.wretN {vm₁ : Vm} {n : Nat} (X : Stand p l e R (s.setVm vm₁) m args below meth c T locs cells slots) (hx : p.tables.exec = Jvm.exec) {pc : Nat} {Ls : Array Slot} {z : Int32} {t : FieldType} {rest : List Value} (hret : meth.sig.returnType = some t) (ht : t = .boolean ∨ t = .byte ∨ t = .char ∨ t = .short) (hlk : meth.locks = false) (hd : decode c.code pc = .ok (.ireturn, 1))
    (hS : s.Since vm₁ n) (hn : n ≤ h.size) (eT : T.heap = h) (hq : Q (some (.int (nar t z))) h locs) (hc : cells ≤ kc) (hl : slots ≤ ks) : Comes p e below (EndsAtW below s Q kc ks) (T.setTop (mkF m pc Ls (.int z :: rest))) := by
  obtain ⟨fs, hr, hrun, hended, h1, h2, h3, h4⟩ := X.leaveW hS (by rw [eT]; exact hn) (v := some (.int (nar t z))) (fun q => by rw [hret] at q; cases q) hlk
  exact ⟨_, Jvm.RoadKit.retN X hx hret ht hd hr, _, hrun, hended, _, _, rfl, (show Q _ T.heap locs from by rw [eT]; exact hq), h1, h2, h3, h4.mono hc hl⟩
theorem narrow_ref {t : FieldType} {w : Value} (h : w.isRef = true) : narrow t w = w := by rcases ref_cases h with rfl | ⟨y, rfl⟩ <;> cases t <;> rfl
theorem lremM {g : JFrame} {target : State} (X : Stand p l e R s m args below meth c T locs cells slots) (hx : p.tables.exec = Jvm.exec) (hg : g.method = m) {x y : Int64} {rest : List Value} (hd : decode c.code g.pc = .ok (.lrem, 1)) (hs : g.stack = .long y :: .long x :: rest) (hy : ¬ y = 0)
    (hr : Steps p.tables e below (T.setTop { g with pc := g.pc + 1, stack := .long (x % y) :: rest }) target) : Steps p.tables e below (T.setTop g) target := by
  have q : x - x / y * y = x % y := lrem_mod x y
  exact XT.lrem X.here hx hg hd hs hy (by rw [q]; exact hr)
theorem own_dup2 {g : JFrame} {target : State} (X : Stand p l e R s m args below meth c T locs cells slots) (hx : p.tables.exec = Jvm.exec) (hg : g.method = m) {x y : Value} {rest : List Value} (hd : decode c.code g.pc = .ok (.dup2, 1)) (hs : g.stack = x :: y :: rest) (hcx : x.category = 1) (hcy : y.category = 1)
    (hr : Steps p.tables e below (T.setTop { g with pc := g.pc + 1, stack := x :: y :: x :: y :: rest }) target) : Steps p.tables e below (T.setTop g) target := by
  subst hg
  jvm_step X.here [X.here.top, hx, hd, hs, hcx, hcy]
  exact hr
theorem own_inb {j : Int32} {n : Nat} (h : 0 ≤ j.toInt ∧ j.toInt < (n : Int)) : ¬ (j < 0 ∨ n ≤ j.toNatClampNeg) := by
  rw [Int32.lt_iff_toInt_lt]; simp only [Int32.toNatClampNeg, Int32.reduceToInt]; omega
theorem own_lrem (x y : Int64) (d : Int) (hy : y.toInt = d) : (0 ≤ x.toInt → (x % y).toInt = x.toInt % d) ∧ (x.toInt < 0 → (x % y).toInt = -((-x.toInt) % d)) := by rw [Int64.toInt_mod, hy]; exact tr _ _
theorem own_lremV (x y : Int64) : 0 ≤ x.toInt → 0 < y.toInt → 0 ≤ (x % y).toInt ∧ (x % y).toInt < y.toInt := by
  intro h1 h2
  rw [Int64.toInt_mod, Int.tmod_eq_emod_of_nonneg h1]
  exact ⟨Int.emod_nonneg _ (by omega), Int.emod_lt_of_pos _ h2⟩
theorem own_eqi {a0 : Array Value} {Z : State} {t : Term} {k : Int32} {idx : List Nat} (h : (Jvm.Cond.eq t (Term.int k)).value a0 Z none Z idx = some true) : t.eval a0 Z none idx Z = some (.int k) := by
  obtain ⟨x, y, e1, e2, k1, k2⟩ := cmp_v (Or.inl h)
  simp only [Term.eval, Option.some.injEq] at e2
  subst e2
  obtain ⟨z, rfl⟩ := k2
  simp [Cond.value, e1, Term.eval] at h
  rw [e1, h]
theorem own_selp {a0 : Array Value} {Z : State} {y : MethodName} {n : Nat} (wi : (Jvm.Cond.instantiable y.cls n).before a0 Z = true) (wp : (Jvm.Cond.privateMethod y).before a0 Z = true) (wm : (Jvm.Cond.instanceMethod y).before a0 Z = true) (hy : y.cls ≠ "java/lang/invoke/MethodHandle" ∧ y.cls ≠ "java/lang/invoke/VarHandle") : (Jvm.Cond.selects y.cls y y).before a0 Z = true := by
  obtain ⟨c, k, h1, h2, h3, h4, -⟩ := Cond.instantiable_spec wi
  exact Jvm.Stand.selects_self_of_private h1 h2 (by simp only [Bool.or_eq_false_iff] at h4; exact h4.1) (Cond.privateMethod_at wp) wm hy
theorem own_eqr {a0 : Array Value} {Z : State} {t u : Term} {y : Value} {idx : List Nat} (h : (Jvm.Cond.eq t u).value a0 Z none Z idx = some true) (hu : u.eval a0 Z none idx Z = some y) (hy : y.isRef = true) : t.eval a0 Z none idx Z = some y := by
  obtain ⟨x, y', e1, e2, k1, k2⟩ := cmp_v (Or.inl h)
  cases hu.symm.trans e2
  have hx : x.isRef = true := by
    rcases ref_cases hy with rfl | ⟨z, rfl⟩ <;> cases x <;> simp_all [Kin, Value.isRef]
  rw [e1, gotT (eq_R e1 hu hx hy) h]
theorem own_len {a0 : Array Value} {Z : State} {t : Term} {a : Addr} {cl : Cell} {ty : FieldType} {k : Int32} (ht : t.eval a0 Z none [] Z = some (.ref a)) (A : Arr Z Z.heap a cl ty) (h : (Jvm.Cond.eq (Term.length t) (Term.int k)).value a0 Z none Z [] = some true) : cl.slots.size < 2 ^ 31 ∧ cl.slots.size.toInt32 = k := by
  have e := own_eqi h
  have e2 := A.fin (Vm.Alike.refl _)
  simp [Term.eval, ht, e2] at e
  exact ⟨by omega, e.2⟩
theorem own_elem {a0 : Array Value} {Z : State} {t u : Term} {a : Addr} {cl : Cell} {j : Int32} {y : Value} (ht : t.eval a0 Z none [] Z = some (.ref a)) (hc : Z.heap[a]? = some cl) (h : (Jvm.Cond.eq (Term.elem t (Term.int j)) u).value a0 Z none Z [] = some true) (hu : u.eval a0 Z none [] Z = some y) (hy : y.isRef = true) : cl.slots[j.toNatClampNeg]? = some y := (elem_in (own_eqr h hu hy) ht (by rfl) hc).2
theorem own_fldi {a0 : Array Value} {Z : State} {t : Term} {k : Int32} {a : Addr} {C n d : String} (ht : t.eval a0 Z none [] Z = some (.ref a)) (h : (Jvm.Cond.eq (Term.field t C n d) (Term.int k)).value a0 Z none Z [] = some true) : Fld Z Z.heap a C n d (.int k) := Fld.start ((fld_at ht).symm.trans (own_eqi h))
end Own
theorem d5_0 : decode jdk_22_method_1_code 0 = .ok (.aload_n 0, 1) := by decide +kernel
theorem d5_1 : decode jdk_22_method_1_code 1 = .ok (.invokespecial 1, 3) := by decide +kernel
theorem d5_4 : decode jdk_22_method_1_code 4 = .ok (.return_, 1) := by decide +kernel
theorem d8_0 : decode jdk_71_method_1_code 0 = .ok (.aload_n 0, 1) := by decide +kernel
theorem d8_1 : decode jdk_71_method_1_code 1 = .ok (.invokespecial 1, 3) := by decide +kernel
theorem d8_4 : decode jdk_71_method_1_code 4 = .ok (.return_, 1) := by decide +kernel
theorem d11_0 : decode jdk_91_method_1_code 0 = .ok (.aload_n 0, 1) := by decide +kernel
theorem d11_1 : decode jdk_91_method_1_code 1 = .ok (.invokespecial 1, 3) := by decide +kernel
theorem d11_4 : decode jdk_91_method_1_code 4 = .ok (.return_, 1) := by decide +kernel
theorem d7_0 : decode jdk_69_method_7_code 0 = .ok (.aload_n 0, 1) := by decide +kernel
theorem d7_1 : decode jdk_69_method_7_code 1 = .ok (.invokespecial 43, 3) := by decide +kernel
theorem d7_4 : decode jdk_69_method_7_code 4 = .ok (.aload_n 0, 1) := by decide +kernel
theorem d7_5 : decode jdk_69_method_7_code 5 = .ok (.ldc 92, 2) := by decide +kernel
theorem d7_7 : decode jdk_69_method_7_code 7 = .ok (.putfield 81, 3) := by decide +kernel
theorem d7_10 : decode jdk_69_method_7_code 10 = .ok (.return_, 1) := by decide +kernel
theorem d6_0 : decode jdk_94_method_16_code 0 = .ok (.aload_n 0, 1) := by decide +kernel
theorem d6_1 : decode jdk_94_method_16_code 1 = .ok (.invokespecial 87, 3) := by decide +kernel
theorem d6_4 : decode jdk_94_method_16_code 4 = .ok (.aload_n 0, 1) := by decide +kernel
theorem d6_5 : decode jdk_94_method_16_code 5 = .ok (.iconst 0, 1) := by decide +kernel
theorem d6_6 : decode jdk_94_method_16_code 6 = .ok (.putfield 1, 3) := by decide +kernel
theorem d6_9 : decode jdk_94_method_16_code 9 = .ok (.aload_n 0, 1) := by decide +kernel
theorem d6_10 : decode jdk_94_method_16_code 10 = .ok (.iconst 0, 1) := by decide +kernel
theorem d6_11 : decode jdk_94_method_16_code 11 = .ok (.putfield 64, 3) := by decide +kernel
theorem d6_14 : decode jdk_94_method_16_code 14 = .ok (.return_, 1) := by decide +kernel
theorem d14_0 : decode jdk_118_method_6_code 0 = .ok (.fload_n 0, 1) := by decide +kernel
theorem d14_1 : decode jdk_118_method_6_code 1 = .ok (.fload_n 0, 1) := by decide +kernel
theorem d14_2 : decode jdk_118_method_6_code 2 = .ok (.fcmp .l, 1) := by decide +kernel
theorem d14_3 : decode jdk_118_method_6_code 3 = .ok (.ifCond .eq 7, 3) := by decide +kernel
theorem d14_10 : decode jdk_118_method_6_code 10 = .ok (.iconst 0, 1) := by decide +kernel
theorem d14_11 : decode jdk_118_method_6_code 11 = .ok (.ireturn, 1) := by decide +kernel
theorem d16_0 : decode jdk_33_method_47_code 0 = .ok (.iload_n 0, 1) := by decide +kernel
theorem d16_1 : decode jdk_33_method_47_code 1 = .ok (.ifCond .gt 14, 3) := by decide +kernel
theorem d16_15 : decode jdk_33_method_47_code 15 = .ok (.bipush 31, 2) := by decide +kernel
theorem d16_17 : decode jdk_33_method_47_code 17 = .ok (.istore_n 1, 1) := by decide +kernel
theorem d16_18 : decode jdk_33_method_47_code 18 = .ok (.iload_n 0, 1) := by decide +kernel
theorem d16_19 : decode jdk_33_method_47_code 19 = .ok (.ldc_w 264, 3) := by decide +kernel
theorem d16_22 : decode jdk_33_method_47_code 22 = .ok (.if_icmp .lt 11, 3) := by decide +kernel
theorem d16_33 : decode jdk_33_method_47_code 33 = .ok (.iload_n 0, 1) := by decide +kernel
theorem d16_34 : decode jdk_33_method_47_code 34 = .ok (.sipush 256, 3) := by decide +kernel
theorem d16_37 : decode jdk_33_method_47_code 37 = .ok (.if_icmp .lt 11, 3) := by decide +kernel
theorem d16_48 : decode jdk_33_method_47_code 48 = .ok (.iload_n 0, 1) := by decide +kernel
theorem d16_49 : decode jdk_33_method_47_code 49 = .ok (.bipush 16, 2) := by decide +kernel
theorem d16_51 : decode jdk_33_method_47_code 51 = .ok (.if_icmp .lt 10, 3) := by decide +kernel
theorem d16_61 : decode jdk_33_method_47_code 61 = .ok (.iload_n 0, 1) := by decide +kernel
theorem d16_62 : decode jdk_33_method_47_code 62 = .ok (.iconst 4, 1) := by decide +kernel
theorem d16_63 : decode jdk_33_method_47_code 63 = .ok (.if_icmp .lt 10, 3) := by decide +kernel
theorem d16_66 : decode jdk_33_method_47_code 66 = .ok (.iinc 1 (-2), 3) := by decide +kernel
theorem d16_69 : decode jdk_33_method_47_code 69 = .ok (.iload_n 0, 1) := by decide +kernel
theorem d16_70 : decode jdk_33_method_47_code 70 = .ok (.iconst 2, 1) := by decide +kernel
theorem d16_71 : decode jdk_33_method_47_code 71 = .ok (.iushr, 1) := by decide +kernel
theorem d16_72 : decode jdk_33_method_47_code 72 = .ok (.istore_n 0, 1) := by decide +kernel
theorem d16_73 : decode jdk_33_method_47_code 73 = .ok (.iload_n 1, 1) := by decide +kernel
theorem d16_74 : decode jdk_33_method_47_code 74 = .ok (.iload_n 0, 1) := by decide +kernel
theorem d16_75 : decode jdk_33_method_47_code 75 = .ok (.iconst 1, 1) := by decide +kernel
theorem d16_76 : decode jdk_33_method_47_code 76 = .ok (.iushr, 1) := by decide +kernel
theorem d16_77 : decode jdk_33_method_47_code 77 = .ok (.isub, 1) := by decide +kernel
theorem d16_78 : decode jdk_33_method_47_code 78 = .ok (.ireturn, 1) := by decide +kernel
theorem d15_0 : decode jdk_69_method_4_code 0 = .ok (.iconst (-1), 1) := by decide +kernel
theorem d15_1 : decode jdk_69_method_4_code 1 = .ok (.iload_n 0, 1) := by decide +kernel
theorem d15_2 : decode jdk_69_method_4_code 2 = .ok (.iconst 1, 1) := by decide +kernel
theorem d15_3 : decode jdk_69_method_4_code 3 = .ok (.isub, 1) := by decide +kernel
theorem d15_4 : decode jdk_69_method_4_code 4 = .ok (.invokestatic 34, 3) := by decide +kernel
theorem d15_7 : decode jdk_69_method_4_code 7 = .ok (.iushr, 1) := by decide +kernel
theorem d15_8 : decode jdk_69_method_4_code 8 = .ok (.istore_n 1, 1) := by decide +kernel
theorem d15_9 : decode jdk_69_method_4_code 9 = .ok (.iload_n 1, 1) := by decide +kernel
theorem d15_10 : decode jdk_69_method_4_code 10 = .ok (.ifCond .ge 7, 3) := by decide +kernel
theorem d15_17 : decode jdk_69_method_4_code 17 = .ok (.iload_n 1, 1) := by decide +kernel
theorem d15_18 : decode jdk_69_method_4_code 18 = .ok (.ldc 42, 2) := by decide +kernel
theorem d15_20 : decode jdk_69_method_4_code 20 = .ok (.if_icmp .lt 8, 3) := by decide +kernel
theorem d15_28 : decode jdk_69_method_4_code 28 = .ok (.iload_n 1, 1) := by decide +kernel
theorem d15_29 : decode jdk_69_method_4_code 29 = .ok (.iconst 1, 1) := by decide +kernel
theorem d15_30 : decode jdk_69_method_4_code 30 = .ok (.iadd, 1) := by decide +kernel
theorem d15_31 : decode jdk_69_method_4_code 31 = .ok (.ireturn, 1) := by decide +kernel
theorem d13_0 : decode jdk_69_method_5_code 0 = .ok (.aload_n 0, 1) := by decide +kernel
theorem d13_1 : decode jdk_69_method_5_code 1 = .ok (.invokespecial 43, 3) := by decide +kernel
theorem d13_4 : decode jdk_69_method_5_code 4 = .ok (.iload_n 1, 1) := by decide +kernel
theorem d13_5 : decode jdk_69_method_5_code 5 = .ok (.ifCond .ge 30, 3) := by decide +kernel
theorem d13_35 : decode jdk_69_method_5_code 35 = .ok (.iload_n 1, 1) := by decide +kernel
theorem d13_36 : decode jdk_69_method_5_code 36 = .ok (.ldc 42, 2) := by decide +kernel
theorem d13_38 : decode jdk_69_method_5_code 38 = .ok (.if_icmp .le 6, 3) := by decide +kernel
theorem d13_44 : decode jdk_69_method_5_code 44 = .ok (.fload_n 2, 1) := by decide +kernel
theorem d13_45 : decode jdk_69_method_5_code 45 = .ok (.fconst 0, 1) := by decide +kernel
theorem d13_46 : decode jdk_69_method_5_code 46 = .ok (.fcmp .g, 1) := by decide +kernel
theorem d13_47 : decode jdk_69_method_5_code 47 = .ok (.ifCond .le 10, 3) := by decide +kernel
theorem d13_50 : decode jdk_69_method_5_code 50 = .ok (.fload_n 2, 1) := by decide +kernel
theorem d13_51 : decode jdk_69_method_5_code 51 = .ok (.invokestatic 70, 3) := by decide +kernel
theorem d13_54 : decode jdk_69_method_5_code 54 = .ok (.ifCond .eq 30, 3) := by decide +kernel
theorem d13_84 : decode jdk_69_method_5_code 84 = .ok (.aload_n 0, 1) := by decide +kernel
theorem d13_85 : decode jdk_69_method_5_code 85 = .ok (.fload_n 2, 1) := by decide +kernel
theorem d13_86 : decode jdk_69_method_5_code 86 = .ok (.putfield 81, 3) := by decide +kernel
theorem d13_89 : decode jdk_69_method_5_code 89 = .ok (.aload_n 0, 1) := by decide +kernel
theorem d13_90 : decode jdk_69_method_5_code 90 = .ok (.iload_n 1, 1) := by decide +kernel
theorem d13_91 : decode jdk_69_method_5_code 91 = .ok (.invokestatic 85, 3) := by decide +kernel
theorem d13_94 : decode jdk_69_method_5_code 94 = .ok (.putfield 88, 3) := by decide +kernel
theorem d13_97 : decode jdk_69_method_5_code 97 = .ok (.return_, 1) := by decide +kernel
theorem d12_0 : decode jdk_94_method_14_code 0 = .ok (.aload_n 0, 1) := by decide +kernel
theorem d12_1 : decode jdk_94_method_14_code 1 = .ok (.iload_n 1, 1) := by decide +kernel
theorem d12_2 : decode jdk_94_method_14_code 2 = .ok (.fload_n 2, 1) := by decide +kernel
theorem d12_3 : decode jdk_94_method_14_code 3 = .ok (.invokespecial 81, 3) := by decide +kernel
theorem d12_6 : decode jdk_94_method_14_code 6 = .ok (.aload_n 0, 1) := by decide +kernel
theorem d12_7 : decode jdk_94_method_14_code 7 = .ok (.iconst 0, 1) := by decide +kernel
theorem d12_8 : decode jdk_94_method_14_code 8 = .ok (.putfield 1, 3) := by decide +kernel
theorem d12_11 : decode jdk_94_method_14_code 11 = .ok (.aload_n 0, 1) := by decide +kernel
theorem d12_12 : decode jdk_94_method_14_code 12 = .ok (.iconst 0, 1) := by decide +kernel
theorem d12_13 : decode jdk_94_method_14_code 13 = .ok (.putfield 64, 3) := by decide +kernel
theorem d12_16 : decode jdk_94_method_14_code 16 = .ok (.return_, 1) := by decide +kernel
theorem d10_0 : decode jdk_93_method_5_code 0 = .ok (.aload_n 0, 1) := by decide +kernel
theorem d10_1 : decode jdk_93_method_5_code 1 = .ok (.invokespecial 1, 3) := by decide +kernel
theorem d10_4 : decode jdk_93_method_5_code 4 = .ok (.aload_n 0, 1) := by decide +kernel
theorem d10_5 : decode jdk_93_method_5_code 5 = .ok (.new 42, 3) := by decide +kernel
theorem d10_8 : decode jdk_93_method_5_code 8 = .ok (.dup, 1) := by decide +kernel
theorem d10_9 : decode jdk_93_method_5_code 9 = .ok (.iload_n 1, 1) := by decide +kernel
theorem d10_10 : decode jdk_93_method_5_code 10 = .ok (.fload_n 2, 1) := by decide +kernel
theorem d10_11 : decode jdk_93_method_5_code 11 = .ok (.invokespecial 44, 3) := by decide +kernel
theorem d10_14 : decode jdk_93_method_5_code 14 = .ok (.putfield 10, 3) := by decide +kernel
theorem d10_17 : decode jdk_93_method_5_code 17 = .ok (.return_, 1) := by decide +kernel
theorem d9_0 : decode jdk_2620_method_3_code 0 = .ok (.aload_n 0, 1) := by decide +kernel
theorem d9_1 : decode jdk_2620_method_3_code 1 = .ok (.bipush 16, 2) := by decide +kernel
theorem d9_3 : decode jdk_2620_method_3_code 3 = .ok (.ldc 7, 2) := by decide +kernel
theorem d9_5 : decode jdk_2620_method_3_code 5 = .ok (.iconst 1, 1) := by decide +kernel
theorem d9_6 : decode jdk_2620_method_3_code 6 = .ok (.invokespecial 1, 3) := by decide +kernel
theorem d9_9 : decode jdk_2620_method_3_code 9 = .ok (.return_, 1) := by decide +kernel
theorem d17_0 : decode jdk_93_method_1_code 0 = .ok (.aload_n 0, 1) := by decide +kernel
theorem d17_1 : decode jdk_93_method_1_code 1 = .ok (.invokespecial 1, 3) := by decide +kernel
theorem d17_4 : decode jdk_93_method_1_code 4 = .ok (.aload_n 0, 1) := by decide +kernel
theorem d17_5 : decode jdk_93_method_1_code 5 = .ok (.new 7, 3) := by decide +kernel
theorem d17_8 : decode jdk_93_method_1_code 8 = .ok (.dup, 1) := by decide +kernel
theorem d17_9 : decode jdk_93_method_1_code 9 = .ok (.invokespecial 9, 3) := by decide +kernel
theorem d17_12 : decode jdk_93_method_1_code 12 = .ok (.putfield 10, 3) := by decide +kernel
theorem d17_15 : decode jdk_93_method_1_code 15 = .ok (.return_, 1) := by decide +kernel
theorem d4_0 : decode prog_38_method_1_code 0 = .ok (.aload_n 0, 1) := by decide +kernel
theorem d4_1 : decode prog_38_method_1_code 1 = .ok (.invokespecial 1, 3) := by decide +kernel
theorem d4_4 : decode prog_38_method_1_code 4 = .ok (.aload_n 0, 1) := by decide +kernel
theorem d4_5 : decode prog_38_method_1_code 5 = .ok (.bipush 16, 2) := by decide +kernel
theorem d4_7 : decode prog_38_method_1_code 7 = .ok (.anewarray 7, 3) := by decide +kernel
theorem d4_10 : decode prog_38_method_1_code 10 = .ok (.putfield 9, 3) := by decide +kernel
theorem d4_13 : decode prog_38_method_1_code 13 = .ok (.return_, 1) := by decide +kernel
theorem d2_0 : decode prog_37_method_1_code 0 = .ok (.aload_n 0, 1) := by decide +kernel
theorem d2_1 : decode prog_37_method_1_code 1 = .ok (.invokespecial 1, 3) := by decide +kernel
theorem d2_4 : decode prog_37_method_1_code 4 = .ok (.aload_n 0, 1) := by decide +kernel
theorem d2_5 : decode prog_37_method_1_code 5 = .ok (.new 7, 3) := by decide +kernel
theorem d2_8 : decode prog_37_method_1_code 8 = .ok (.dup, 1) := by decide +kernel
theorem d2_9 : decode prog_37_method_1_code 9 = .ok (.invokespecial 9, 3) := by decide +kernel
theorem d2_12 : decode prog_37_method_1_code 12 = .ok (.putfield 10, 3) := by decide +kernel
theorem d2_15 : decode prog_37_method_1_code 15 = .ok (.aload_n 0, 1) := by decide +kernel
theorem d2_16 : decode prog_37_method_1_code 16 = .ok (.lload_n 1, 1) := by decide +kernel
theorem d2_17 : decode prog_37_method_1_code 17 = .ok (.putfield 16, 3) := by decide +kernel
theorem d2_20 : decode prog_37_method_1_code 20 = .ok (.return_, 1) := by decide +kernel
theorem d1_0 : decode prog_43_method_1_code 0 = .ok (.aload_n 0, 1) := by decide +kernel
theorem d1_1 : decode prog_43_method_1_code 1 = .ok (.lload_n 1, 1) := by decide +kernel
theorem d1_2 : decode prog_43_method_1_code 2 = .ok (.invokespecial 1, 3) := by decide +kernel
theorem d1_5 : decode prog_43_method_1_code 5 = .ok (.aload_n 0, 1) := by decide +kernel
theorem d1_6 : decode prog_43_method_1_code 6 = .ok (.ldc2_w 9, 3) := by decide +kernel
theorem d1_9 : decode prog_43_method_1_code 9 = .ok (.putfield 11, 3) := by decide +kernel
theorem d1_12 : decode prog_43_method_1_code 12 = .ok (.aload_n 0, 1) := by decide +kernel
theorem d1_13 : decode prog_43_method_1_code 13 = .ok (.lconst 0, 1) := by decide +kernel
theorem d1_14 : decode prog_43_method_1_code 14 = .ok (.putfield 15, 3) := by decide +kernel
theorem d1_17 : decode prog_43_method_1_code 17 = .ok (.aload_n 0, 1) := by decide +kernel
theorem d1_18 : decode prog_43_method_1_code 18 = .ok (.new 18, 3) := by decide +kernel
theorem d1_21 : decode prog_43_method_1_code 21 = .ok (.dup, 1) := by decide +kernel
theorem d1_22 : decode prog_43_method_1_code 22 = .ok (.invokespecial 20, 3) := by decide +kernel
theorem d1_25 : decode prog_43_method_1_code 25 = .ok (.putfield 23, 3) := by decide +kernel
theorem d1_28 : decode prog_43_method_1_code 28 = .ok (.aload_n 0, 1) := by decide +kernel
theorem d1_29 : decode prog_43_method_1_code 29 = .ok (.new 27, 3) := by decide +kernel
theorem d1_32 : decode prog_43_method_1_code 32 = .ok (.dup, 1) := by decide +kernel
theorem d1_33 : decode prog_43_method_1_code 33 = .ok (.invokespecial 29, 3) := by decide +kernel
theorem d1_36 : decode prog_43_method_1_code 36 = .ok (.putfield 30, 3) := by decide +kernel
theorem d1_39 : decode prog_43_method_1_code 39 = .ok (.aload_n 0, 1) := by decide +kernel
theorem d1_40 : decode prog_43_method_1_code 40 = .ok (.new 18, 3) := by decide +kernel
theorem d1_43 : decode prog_43_method_1_code 43 = .ok (.dup, 1) := by decide +kernel
theorem d1_44 : decode prog_43_method_1_code 44 = .ok (.invokespecial 20, 3) := by decide +kernel
theorem d1_47 : decode prog_43_method_1_code 47 = .ok (.putfield 33, 3) := by decide +kernel
theorem d1_50 : decode prog_43_method_1_code 50 = .ok (.aload_n 0, 1) := by decide +kernel
theorem d1_51 : decode prog_43_method_1_code 51 = .ok (.new 36, 3) := by decide +kernel
theorem d1_54 : decode prog_43_method_1_code 54 = .ok (.dup, 1) := by decide +kernel
theorem d1_55 : decode prog_43_method_1_code 55 = .ok (.invokespecial 38, 3) := by decide +kernel
theorem d1_58 : decode prog_43_method_1_code 58 = .ok (.putfield 39, 3) := by decide +kernel
theorem d1_61 : decode prog_43_method_1_code 61 = .ok (.aload_n 0, 1) := by decide +kernel
theorem d1_62 : decode prog_43_method_1_code 62 = .ok (.new 43, 3) := by decide +kernel
theorem d1_65 : decode prog_43_method_1_code 65 = .ok (.dup, 1) := by decide +kernel
theorem d1_66 : decode prog_43_method_1_code 66 = .ok (.invokespecial 45, 3) := by decide +kernel
theorem d1_69 : decode prog_43_method_1_code 69 = .ok (.putfield 46, 3) := by decide +kernel
theorem d1_72 : decode prog_43_method_1_code 72 = .ok (.aload_n 0, 1) := by decide +kernel
theorem d1_73 : decode prog_43_method_1_code 73 = .ok (.aload_n 3, 1) := by decide +kernel
theorem d1_74 : decode prog_43_method_1_code 74 = .ok (.putfield 49, 3) := by decide +kernel
theorem d1_77 : decode prog_43_method_1_code 77 = .ok (.return_, 1) := by decide +kernel
theorem d18_0 : decode prog_43_method_5_code 0 = .ok (.aload_n 0, 1) := by decide +kernel
theorem d18_1 : decode prog_43_method_5_code 1 = .ok (.getfield 11, 3) := by decide +kernel
theorem d18_4 : decode prog_43_method_5_code 4 = .ok (.ldc2_w 9, 3) := by decide +kernel
theorem d18_7 : decode prog_43_method_5_code 7 = .ok (.lcmp, 1) := by decide +kernel
theorem d18_8 : decode prog_43_method_5_code 8 = .ok (.ifCond .eq 12, 3) := by decide +kernel
theorem d18_20 : decode prog_43_method_5_code 20 = .ok (.ldc2_w 55, 3) := by decide +kernel
theorem d18_23 : decode prog_43_method_5_code 23 = .ok (.lreturn, 1) := by decide +kernel
theorem d18_11 : decode prog_43_method_5_code 11 = .ok (.aload_n 0, 1) := by decide +kernel
theorem d18_12 : decode prog_43_method_5_code 12 = .ok (.getfield 15, 3) := by decide +kernel
theorem d18_15 : decode prog_43_method_5_code 15 = .ok (.lconst 0, 1) := by decide +kernel
theorem d18_16 : decode prog_43_method_5_code 16 = .ok (.lcmp, 1) := by decide +kernel
theorem d18_17 : decode prog_43_method_5_code 17 = .ok (.ifCond .ne 7, 3) := by decide +kernel
theorem d18_24 : decode prog_43_method_5_code 24 = .ok (.aload_n 0, 1) := by decide +kernel
theorem d18_25 : decode prog_43_method_5_code 25 = .ok (.getfield 15, 3) := by decide +kernel
theorem d18_28 : decode prog_43_method_5_code 28 = .ok (.aload_n 0, 1) := by decide +kernel
theorem d18_29 : decode prog_43_method_5_code 29 = .ok (.getfield 11, 3) := by decide +kernel
theorem d18_32 : decode prog_43_method_5_code 32 = .ok (.ldc2_w 57, 3) := by decide +kernel
theorem d18_35 : decode prog_43_method_5_code 35 = .ok (.lmul, 1) := by decide +kernel
theorem d18_36 : decode prog_43_method_5_code 36 = .ok (.ladd, 1) := by decide +kernel
theorem d18_37 : decode prog_43_method_5_code 37 = .ok (.lreturn, 1) := by decide +kernel
theorem pd_0 : parseMethodDescriptor "()V" = some ⟨[], none⟩ := by decide +kernel
theorem pd_1 : parseMethodDescriptor "(I)I" = some ⟨[.int], some .int⟩ := by decide +kernel
theorem pd_2 : parseMethodDescriptor "(F)Z" = some ⟨[.float], some .boolean⟩ := by decide +kernel
theorem pd_3 : parseMethodDescriptor "(IF)V" = some ⟨[.int, .float], none⟩ := by decide +kernel
theorem pd_4 : parseMethodDescriptor "(IFZ)V" = some ⟨[.int, .float, .boolean], none⟩ := by decide +kernel
theorem pd_5 : parseMethodDescriptor "(J)V" = some ⟨[.long], none⟩ := by decide +kernel
theorem pd_6 : parseMethodDescriptor "(JLjava/lang/String;)V" = some ⟨[.long, (.object "java/lang/String")], none⟩ := by decide +kernel
theorem pd_7 : parseMethodDescriptor "()J" = some ⟨[], some .long⟩ := by decide +kernel
theorem pn_5 : plainName "java/util/AbstractCollection" = true := by first | (simp [plainName, overriddenIn]; done) | decide +kernel
theorem pn_8 : plainName "java/util/AbstractMap" = true := by first | (simp [plainName, overriddenIn]; done) | decide +kernel
theorem pn_11 : plainName "java/util/AbstractSet" = true := by first | (simp [plainName, overriddenIn]; done) | decide +kernel
theorem pn_7 : plainName "java/util/HashMap" = true := by first | (simp [plainName, overriddenIn]; done) | decide +kernel
theorem pn_6 : plainName "java/util/LinkedHashMap" = true := by first | (simp [plainName, overriddenIn]; done) | decide +kernel
theorem pn_14 : plainFor (⟨"java/lang/Float", "isNaN", "(F)Z"⟩ : MethodName) = true := by decide +kernel
theorem pn_16 : plainName "java/lang/Integer" = true := by first | (simp [plainName, overriddenIn]; done) | decide +kernel
theorem pn_15 : plainName "java/util/HashMap" = true := by first | (simp [plainName, overriddenIn]; done) | decide +kernel
theorem pn_13 : plainName "java/util/HashMap" = true := by first | (simp [plainName, overriddenIn]; done) | decide +kernel
theorem pn_12 : plainName "java/util/LinkedHashMap" = true := by first | (simp [plainName, overriddenIn]; done) | decide +kernel
theorem pn_10 : plainName "java/util/HashSet" = true := by first | (simp [plainName, overriddenIn]; done) | decide +kernel
theorem pn_9 : plainName "java/util/LinkedHashSet" = true := by first | (simp [plainName, overriddenIn]; done) | decide +kernel
theorem pn_17 : plainName "java/util/HashSet" = true := by first | (simp [plainName, overriddenIn]; done) | decide +kernel
theorem pn_4 : plainName "com/example/ferry2/ferry2/store/PendingMessages" = true := by first | (simp [plainName, overriddenIn]; done) | decide +kernel
theorem pn_2 : plainName "com/example/ferry2/ferry2/store/Endpoint" = true := by first | (simp [plainName, overriddenIn]; done) | decide +kernel
theorem pn_1 : plainName "com/example/ferry2/ferry2/store/Session" = true := by first | (simp [plainName, overriddenIn]; done) | decide +kernel
theorem pn_18 : plainName "com/example/ferry2/ferry2/store/Session" = true := by first | (simp [plainName, overriddenIn]; done) | decide +kernel
theorem pn_0 : plainName "com/example/ferry2/ferry2/store/SessionExpiryPinLaw" = true := by first | (simp [plainName, overriddenIn]; done) | decide +kernel
theorem ef_rm5 (m : MethodId) (x0 : Nat) : entryFrame m #[(.ref x0)] 1 = mkF m 0 #[.val (.ref x0)] [] := by first | (simp [entryFrame, mkF, argsToLocals, Value.category]; done) | rfl
theorem ef_rm8 (m : MethodId) (x0 : Nat) : entryFrame m #[(.ref x0)] 1 = mkF m 0 #[.val (.ref x0)] [] := by first | (simp [entryFrame, mkF, argsToLocals, Value.category]; done) | rfl
theorem ef_rm11 (m : MethodId) (x0 : Nat) : entryFrame m #[(.ref x0)] 1 = mkF m 0 #[.val (.ref x0)] [] := by first | (simp [entryFrame, mkF, argsToLocals, Value.category]; done) | rfl
theorem ef_hmH (m : MethodId) (x0 : Nat) : entryFrame m #[(.ref x0)] 1 = mkF m 0 #[.val (.ref x0)] [] := by first | (simp [entryFrame, mkF, argsToLocals, Value.category]; done) | rfl
theorem ef_hmL (m : MethodId) (x0 : Nat) : entryFrame m #[(.ref x0)] 1 = mkF m 0 #[.val (.ref x0)] [] := by first | (simp [entryFrame, mkF, argsToLocals, Value.category]; done) | rfl
theorem ef_rm6 (m : MethodId) (x0 : Nat) : entryFrame m #[(.ref x0)] 1 = mkF m 0 #[.val (.ref x0)] [] := by first | (simp [entryFrame, mkF, argsToLocals, Value.category]; done) | rfl
theorem ef_rm14 (m : MethodId)  : entryFrame m #[(.float (1061158912 : UInt32))] 1 = mkF m 0 #[.val (.float (1061158912 : UInt32))] [] := by first | (simp [entryFrame, mkF, argsToLocals, Value.category]; done) | rfl
theorem ef_rm16 (m : MethodId)  : entryFrame m #[(.int (15 : Int32))] 2 = mkF m 0 #[.val (.int (15 : Int32)), .unset] [] := by first | (simp [entryFrame, mkF, argsToLocals, Value.category]; done) | rfl
theorem ef_rm15 (m : MethodId)  : entryFrame m #[(.int (16 : Int32))] 2 = mkF m 0 #[.val (.int (16 : Int32)), .unset] [] := by first | (simp [entryFrame, mkF, argsToLocals, Value.category]; done) | rfl
theorem ef_rm13 (m : MethodId) (x0 : Nat) : entryFrame m #[(.ref x0), (.int (16 : Int32)), (.float (1061158912 : UInt32))] 3 = mkF m 0 #[.val (.ref x0), .val (.int (16 : Int32)), .val (.float (1061158912 : UInt32))] [] := by first | (simp [entryFrame, mkF, argsToLocals, Value.category]; done) | rfl
theorem ef_rm12 (m : MethodId) (x0 : Nat) : entryFrame m #[(.ref x0), (.int (16 : Int32)), (.float (1061158912 : UInt32))] 3 = mkF m 0 #[.val (.ref x0), .val (.int (16 : Int32)), .val (.float (1061158912 : UInt32))] [] := by first | (simp [entryFrame, mkF, argsToLocals, Value.category]; done) | rfl
theorem ef_rm10 (m : MethodId) (x0 : Nat) : entryFrame m #[(.ref x0), (.int (16 : Int32)), (.float (1061158912 : UInt32)), (.int (1 : Int32))] 4 = mkF m 0 #[.val (.ref x0), .val (.int (16 : Int32)), .val (.float (1061158912 : UInt32)), .val (.int (1 : Int32))] [] := by first | (simp [entryFrame, mkF, argsToLocals, Value.category]; done) | rfl
theorem ef_rm9 (m : MethodId) (x0 : Nat) : entryFrame m #[(.ref x0)] 1 = mkF m 0 #[.val (.ref x0)] [] := by first | (simp [entryFrame, mkF, argsToLocals, Value.category]; done) | rfl
theorem ef_rm17 (m : MethodId) (x0 : Nat) : entryFrame m #[(.ref x0)] 1 = mkF m 0 #[.val (.ref x0)] [] := by first | (simp [entryFrame, mkF, argsToLocals, Value.category]; done) | rfl
theorem ef_rm4 (m : MethodId) (x0 : Nat) : entryFrame m #[(.ref x0)] 1 = mkF m 0 #[.val (.ref x0)] [] := by first | (simp [entryFrame, mkF, argsToLocals, Value.category]; done) | rfl
theorem ef_rm2 (m : MethodId) (x0 : Nat) (x1 : Int64) : entryFrame m #[(.ref x0), (.long x1)] 3 = mkF m 0 #[.val (.ref x0), .val (.long x1), .second] [] := by first | (simp [entryFrame, mkF, argsToLocals, Value.category]; done) | rfl
theorem ef_rm1 (m : MethodId) (x0 : Nat) (x1 : Int64) (x2 : Nat) : entryFrame m #[(.ref x0), (.long x1), (.ref x2)] 4 = mkF m 0 #[.val (.ref x0), .val (.long x1), .second, .val (.ref x2)] [] := by first | (simp [entryFrame, mkF, argsToLocals, Value.category]; done) | rfl
theorem ef_rm18 (m : MethodId) (x0 : Nat) : entryFrame m #[(.ref x0)] 1 = mkF m 0 #[.val (.ref x0)] [] := by first | (simp [entryFrame, mkF, argsToLocals, Value.category]; done) | rfl
theorem ef_rm0 (m : MethodId) (x0 : Int64) (x1 : Int64) (x2 : Int64) (x3 : Int32) : entryFrame m #[(.long x0), (.long x1), (.long x2), (.int x3)] maxLocals = mkF m 0 #[.val (.long x0), .second, .val (.long x1), .second, .val (.long x2), .second, .val (.int x3), .unset, .unset, .unset, .unset, .unset, .unset, .unset, .unset, .unset, .unset, .unset, .unset] [] := by first | (simp [entryFrame, mkF, argsToLocals, Value.category, maxLocals]; done) | rfl
def Q_rm5 (Z : State) (self : Nat) (h0 : Heap) (n0 : Nat) (v : Option Value) (h : Heap) (L : List Loc) : Prop := (v = none) ∧ (Fr n0 L) ∧ (h = h0)
set_option maxRecDepth 65536 in
set_option maxHeartbeats 40000000 in
theorem rm5 (l : Launch) (Z : State) (a0 : Array Value) (hw : ∀ d ∈ tables_1, d.before a0 Z = true) (ws : List Jvm.Cond) (self : Nat) (h0 : Heap) (n0 : Nat) (Z0 : n0 ≤ h0.size) :
    MetFree l (⟨"java/util/AbstractCollection", "<init>", "()V"⟩ : MethodName) (head1 (Jvm.Cond.code (⟨"java/util/AbstractCollection", "<init>", "()V"⟩ : MethodName) jdk_22_method_1_code 1 none :: ws) ({ frames := 1, cells := 0, slots := 0, locals := 12 } : Room)) (fun a U => a = #[(.ref self)] ∧ Z.Warmed39 U.vm ∧ U.heap = h0) (fun _ _ _ _ _ => True) (fun _ U o U' => ∃ v L, o = .returned v ∧ Q_rm5 Z self h0 n0 v U'.heap L ∧ FrameEnd U o U' L ({ frames := 1, cells := 0, slots := 0, locals := 12 } : Room).cells ({ frames := 1, cells := 0, slots := 0, locals := 12 } : Room).slots) := by
  refine MetFree.of_bodySF (plainFor_of_name pn_5) hisR ?_
  intro p e s m args below meth c s₁ Bd hml0 hP hK
  obtain ⟨rfl, hZ, hh⟩ := hP
  have hx := Bd.exec
  have hby := Bd.bytes
  have hml : c.maxLocals = 1 := hml0
  have hown : s.vm.findClass "java/util/AbstractCollection" = some m.cls := findClass_of_methodNamed Bd.named
  have hnm := (name_of_methodNamed Bd.named Bd.method).1
  have hlk : meth.locks = false := Bd.notSynchronized
  have X0 : Stand p l e ({ frames := 1, cells := 0, slots := 0, locals := 12 } : Room) s m #[(.ref self)] below meth c s₁ [] 0 0 := Stand.of_body Bd
  have e0 : s₁.heap = h0 := by rw [← hh, Bd.state]; rfl
  have N0 := Fr.nil n0
  refine Comes.out (Q := Q_rm5 Z self h0 n0) (kc := ({ frames := 1, cells := 0, slots := 0, locals := 12 } : Room).cells) (ks := ({ frames := 1, cells := 0, slots := 0, locals := 12 } : Room).slots) ?_
  refine Comes.cast (ef_rm5 m self) ?_
  show Comes p e below _ (s₁.setTop (mkF m 0 #[.val (.ref self)] []))
  refine Comes.st (fun t k => XS.aloadN X0.here hx rfl (hb hby d5_0) rfl rfl k) ?_
  show Comes p e below _ (s₁.setTop (mkF m 1 #[.val (.ref self)] [(.ref self)]))
  obtain ⟨T1, X1, e1, st1⟩ := initO X0 hx hZ hown (hw _ (List.mem_of_getElem? (i := 33) rfl)) (hw _ (List.mem_of_getElem? (i := 20) rfl)) (hw _ (List.mem_of_getElem? (i := 21) rfl)) e0 (g := (mkF m 1 #[.val (.ref self)] [(.ref self)])) rfl (by rw [hml]; rfl) rfl (hb hby d5_1) (by decide) (W := 0) (by show 2 * 0 + _ ≤ _; exact Nat.le_of_eq rfl) (by decide)
  refine Comes.st st1 ?_
  show Comes p e below _ (T1.setTop (mkF m 4 #[.val (.ref self)] []))
  exact Comes.ret0 X1 hx Bd.returns hlk (hb hby d5_4) e1 ⟨rfl, N0, rfl⟩ (by decide) (by decide)
def Q_rm8 (Z : State) (self : Nat) (h0 : Heap) (n0 : Nat) (v : Option Value) (h : Heap) (L : List Loc) : Prop := (v = none) ∧ (Fr n0 L) ∧ (h = h0)
set_option maxRecDepth 65536 in
set_option maxHeartbeats 40000000 in
theorem rm8 (l : Launch) (Z : State) (a0 : Array Value) (hw : ∀ d ∈ tables_1, d.before a0 Z = true) (ws : List Jvm.Cond) (self : Nat) (h0 : Heap) (n0 : Nat) (Z0 : n0 ≤ h0.size) :
    MetFree l (⟨"java/util/AbstractMap", "<init>", "()V"⟩ : MethodName) (head1 (Jvm.Cond.code (⟨"java/util/AbstractMap", "<init>", "()V"⟩ : MethodName) jdk_71_method_1_code 1 none :: ws) ({ frames := 1, cells := 0, slots := 0, locals := 12 } : Room)) (fun a U => a = #[(.ref self)] ∧ Z.Warmed39 U.vm ∧ U.heap = h0) (fun _ _ _ _ _ => True) (fun _ U o U' => ∃ v L, o = .returned v ∧ Q_rm8 Z self h0 n0 v U'.heap L ∧ FrameEnd U o U' L ({ frames := 1, cells := 0, slots := 0, locals := 12 } : Room).cells ({ frames := 1, cells := 0, slots := 0, locals := 12 } : Room).slots) := by
  refine MetFree.of_bodySF (plainFor_of_name pn_8) hisR ?_
  intro p e s m args below meth c s₁ Bd hml0 hP hK
  obtain ⟨rfl, hZ, hh⟩ := hP
  have hx := Bd.exec
  have hby := Bd.bytes
  have hml : c.maxLocals = 1 := hml0
  have hown : s.vm.findClass "java/util/AbstractMap" = some m.cls := findClass_of_methodNamed Bd.named
  have hnm := (name_of_methodNamed Bd.named Bd.method).1
  have hlk : meth.locks = false := Bd.notSynchronized
  have X0 : Stand p l e ({ frames := 1, cells := 0, slots := 0, locals := 12 } : Room) s m #[(.ref self)] below meth c s₁ [] 0 0 := Stand.of_body Bd
  have e0 : s₁.heap = h0 := by rw [← hh, Bd.state]; rfl
  have N0 := Fr.nil n0
  refine Comes.out (Q := Q_rm8 Z self h0 n0) (kc := ({ frames := 1, cells := 0, slots := 0, locals := 12 } : Room).cells) (ks := ({ frames := 1, cells := 0, slots := 0, locals := 12 } : Room).slots) ?_
  refine Comes.cast (ef_rm8 m self) ?_
  show Comes p e below _ (s₁.setTop (mkF m 0 #[.val (.ref self)] []))
  refine Comes.st (fun t k => XS.aloadN X0.here hx rfl (hb hby d8_0) rfl rfl k) ?_
  show Comes p e below _ (s₁.setTop (mkF m 1 #[.val (.ref self)] [(.ref self)]))
  obtain ⟨T1, X1, e1, st1⟩ := initO X0 hx hZ hown (hw _ (List.mem_of_getElem? (i := 65) rfl)) (hw _ (List.mem_of_getElem? (i := 20) rfl)) (hw _ (List.mem_of_getElem? (i := 21) rfl)) e0 (g := (mkF m 1 #[.val (.ref self)] [(.ref self)])) rfl (by rw [hml]; rfl) rfl (hb hby d8_1) (by decide) (W := 0) (by show 2 * 0 + _ ≤ _; exact Nat.le_of_eq rfl) (by decide)
  refine Comes.st st1 ?_
  show Comes p e below _ (T1.setTop (mkF m 4 #[.val (.ref self)] []))
  exact Comes.ret0 X1 hx Bd.returns hlk (hb hby d8_4) e1 ⟨rfl, N0, rfl⟩ (by decide) (by decide)
def Q_rm11 (Z : State) (self : Nat) (h0 : Heap) (n0 : Nat) (v : Option Value) (h : Heap) (L : List Loc) : Prop := (v = none) ∧ (Fr n0 L) ∧ (h = h0)
set_option maxRecDepth 65536 in
set_option maxHeartbeats 40000000 in
theorem rm11 (l : Launch) (Z : State) (a0 : Array Value) (hw : ∀ d ∈ tables_1, d.before a0 Z = true) (ws : List Jvm.Cond) (self : Nat) (h0 : Heap) (n0 : Nat) (Z0 : n0 ≤ h0.size) :
    MetFree l (⟨"java/util/AbstractSet", "<init>", "()V"⟩ : MethodName) (head1 (Jvm.Cond.code (⟨"java/util/AbstractSet", "<init>", "()V"⟩ : MethodName) jdk_91_method_1_code 1 none :: ws) ({ frames := 2, cells := 0, slots := 0, locals := 24 } : Room)) (fun a U => a = #[(.ref self)] ∧ Z.Warmed39 U.vm ∧ U.heap = h0) (fun _ _ _ _ _ => True) (fun _ U o U' => ∃ v L, o = .returned v ∧ Q_rm11 Z self h0 n0 v U'.heap L ∧ FrameEnd U o U' L ({ frames := 2, cells := 0, slots := 0, locals := 24 } : Room).cells ({ frames := 2, cells := 0, slots := 0, locals := 24 } : Room).slots) := by
  refine MetFree.of_bodySF (plainFor_of_name pn_11) hisR ?_
  intro p e s m args below meth c s₁ Bd hml0 hP hK
  obtain ⟨rfl, hZ, hh⟩ := hP
  have hx := Bd.exec
  have hby := Bd.bytes
  have hml : c.maxLocals = 1 := hml0
  have hown : s.vm.findClass "java/util/AbstractSet" = some m.cls := findClass_of_methodNamed Bd.named
  have hnm := (name_of_methodNamed Bd.named Bd.method).1
  have hlk : meth.locks = false := Bd.notSynchronized
  have X0 : Stand p l e ({ frames := 2, cells := 0, slots := 0, locals := 24 } : Room) s m #[(.ref self)] below meth c s₁ [] 0 0 := Stand.of_body Bd
  have e0 : s₁.heap = h0 := by rw [← hh, Bd.state]; rfl
  have N0 := Fr.nil n0
  refine Comes.out (Q := Q_rm11 Z self h0 n0) (kc := ({ frames := 2, cells := 0, slots := 0, locals := 24 } : Room).cells) (ks := ({ frames := 2, cells := 0, slots := 0, locals := 24 } : Room).slots) ?_
  refine Comes.cast (ef_rm11 m self) ?_
  show Comes p e below _ (s₁.setTop (mkF m 0 #[.val (.ref self)] []))
  refine Comes.st (fun t k => XS.aloadN X0.here hx rfl (hb hby d11_0) rfl rfl k) ?_
  show Comes p e below _ (s₁.setTop (mkF m 1 #[.val (.ref self)] [(.ref self)]))
  obtain ⟨_, _, ⟨T1, L1, k1, n1⟩, -, X1, ⟨Lc1, hQ1, l1, y1, z1⟩, st1⟩ := X0.specialBack hx (y := (⟨"java/util/AbstractCollection", "<init>", "()V"⟩ : MethodName)) rfl hown (mvT hZ (hw _ (List.mem_of_getElem? (i := 103) rfl))) (mvT hZ (hw _ (List.mem_of_getElem? (i := 29) rfl))) (mvT hZ (hw _ (List.mem_of_getElem? (i := 32) rfl))) (by decide) (backOf (W := 0) (rm5 l Z a0 hw [] self h0 n0 (by omega)  ) hZ (hw _ (List.mem_of_getElem? (i := 32) rfl)) (hw _ (List.mem_of_getElem? (i := 31) rfl)) (by decide) (by decide)) (g := (mkF m 1 #[.val (.ref self)] [(.ref self)])) rfl (by rw [hml]; rfl) (Steps.refl _) (a := self) (argsL := []) (rest := []) (lenOf pd_0 rfl) rfl (by show 2 * 0 + _ ≤ _; exact Nat.le_of_eq rfl) (hb hby d11_1) (fun _ _ => ⟨rfl, e0, (by decide : 0 + 0 ≤ _), (by decide : 0 + 0 ≤ _)⟩)
  dsimp only [Pt.U, Pt.locs, Pt.cells, Pt.slots] at X1 l1 y1 z1 st1 hQ1
  subst l1 y1 z1
  obtain ⟨rfl, Nq1, hs1⟩ := hQ1
  have N1 := Fr.app N0 Nq1
  refine Comes.go st1 ?_
  show Comes p e below _ (T1.setTop (mkF m 4 #[.val (.ref self)] []))
  exact Comes.ret0 X1 hx Bd.returns hlk (hb hby d11_4) hs1 ⟨rfl, N1, rfl⟩ (by decide) (by decide)
def Q_hmH (Z : State) (self : Nat) (h0 : Heap) (n0 : Nat) (v : Option Value) (h : Heap) (L : List Loc) : Prop := (v = none) ∧ (Fr n0 L) ∧ (Keep h0 h [self]) ∧ (Exa Z h self "java/util/HashMap")
set_option maxRecDepth 65536 in
set_option maxHeartbeats 40000000 in
theorem hmH (l : Launch) (Z : State) (a0 : Array Value) (hw : ∀ d ∈ tables_1, d.before a0 Z = true) (ws : List Jvm.Cond) (self : Nat) (h0 : Heap) (n0 : Nat) (Z0 : n0 ≤ h0.size) (G0 : Exa Z h0 self "java/util/HashMap") (G1 : Fld Z h0 self "java/util/HashMap" "loadFactor" "F" (.float 0)) (G2 : n0 ≤ self) :
    MetFree l (⟨"java/util/HashMap", "<init>", "()V"⟩ : MethodName) (head1 (Jvm.Cond.code (⟨"java/util/HashMap", "<init>", "()V"⟩ : MethodName) jdk_69_method_7_code 1 none :: ws) ({ frames := 2, cells := 0, slots := 0, locals := 24 } : Room)) (fun a U => a = #[(.ref self)] ∧ Z.Warmed39 U.vm ∧ U.heap = h0) (fun _ _ _ _ _ => True) (fun _ U o U' => ∃ v L, o = .returned v ∧ Q_hmH Z self h0 n0 v U'.heap L ∧ FrameEnd U o U' L ({ frames := 2, cells := 0, slots := 0, locals := 24 } : Room).cells ({ frames := 2, cells := 0, slots := 0, locals := 24 } : Room).slots) := by
  refine MetFree.of_bodySF (plainFor_of_name pn_7) hisR ?_
  intro p e s m args below meth c s₁ Bd hml0 hP hK
  obtain ⟨rfl, hZ, hh⟩ := hP
  have hx := Bd.exec
  have hby := Bd.bytes
  have hml : c.maxLocals = 1 := hml0
  have hown : s.vm.findClass "java/util/HashMap" = some m.cls := findClass_of_methodNamed Bd.named
  have hnm := (name_of_methodNamed Bd.named Bd.method).1
  have hlk : meth.locks = false := Bd.notSynchronized
  have X0 : Stand p l e ({ frames := 2, cells := 0, slots := 0, locals := 24 } : Room) s m #[(.ref self)] below meth c s₁ [] 0 0 := Stand.of_body Bd
  have e0 : s₁.heap = h0 := by rw [← hh, Bd.state]; rfl
  have N0 := Fr.nil n0
  have K0 := Keep.refl h0 [self]
  refine Comes.out (Q := Q_hmH Z self h0 n0) (kc := ({ frames := 2, cells := 0, slots := 0, locals := 24 } : Room).cells) (ks := ({ frames := 2, cells := 0, slots := 0, locals := 24 } : Room).slots) ?_
  refine Comes.cast (ef_hmH m self) ?_
  have lt_self : self < h0.size := G0.lt
  show Comes p e below _ (s₁.setTop (mkF m 0 #[.val (.ref self)] []))
  refine Comes.st (fun t k => XS.aloadN X0.here hx rfl (hb hby d7_0) rfl rfl k) ?_
  show Comes p e below _ (s₁.setTop (mkF m 1 #[.val (.ref self)] [(.ref self)]))
  obtain ⟨_, _, ⟨T1, L1, k1, n1⟩, -, X1, ⟨Lc1, hQ1, l1, y1, z1⟩, st1⟩ := X0.specialBack hx (y := (⟨"java/util/AbstractMap", "<init>", "()V"⟩ : MethodName)) rfl hown (mvT hZ (hw _ (List.mem_of_getElem? (i := 59) rfl))) (mvT hZ (hw _ (List.mem_of_getElem? (i := 60) rfl))) (mvT hZ (hw _ (List.mem_of_getElem? (i := 64) rfl))) (by decide) (backOf (W := 0) (rm8 l Z a0 hw [] self h0 n0 (by omega)  ) hZ (hw _ (List.mem_of_getElem? (i := 64) rfl)) (hw _ (List.mem_of_getElem? (i := 63) rfl)) (by decide) (by decide)) (g := (mkF m 1 #[.val (.ref self)] [(.ref self)])) rfl (by rw [hml]; rfl) (Steps.refl _) (a := self) (argsL := []) (rest := []) (lenOf pd_0 rfl) rfl (by show 2 * 0 + _ ≤ _; exact Nat.le_of_eq rfl) (hb hby d7_1) (fun _ _ => ⟨rfl, e0, (by decide : 0 + 0 ≤ _), (by decide : 0 + 0 ≤ _)⟩)
  dsimp only [Pt.U, Pt.locs, Pt.cells, Pt.slots] at X1 l1 y1 z1 st1 hQ1
  subst l1 y1 z1
  obtain ⟨rfl, Nq1, hs1⟩ := hQ1
  have N1 := Fr.app N0 Nq1
  refine Comes.go st1 ?_
  show Comes p e below _ (T1.setTop (mkF m 4 #[.val (.ref self)] []))
  refine Comes.st (fun t k => XS.aloadN X1.here hx rfl (hb hby d7_4) rfl rfl (X1.ldcFloatC hx hown (mvT hZ (hw _ (List.mem_of_getElem? (i := 66) rfl))) (g := (mkF m 5 #[.val (.ref self)] [(.ref self)])) rfl (hb hby d7_5) _ k)) ?_
  show Comes p e below _ (T1.setTop (mkF m 7 #[.val (.ref self)] [(.float (1061158912 : UInt32)), (.ref self)]))
  obtain ⟨T2, h2, X2, e2, W2, st2⟩ := putF X1 hx hZ hown (host := "") (Or.inl (hw _ (List.mem_of_getElem? (i := 67) rfl))) Via.refl hs1 G1 G0 (Or.inr ⟨(hw _ (List.mem_of_getElem? (i := 79) rfl)), rfl, hnm⟩) (hw _ (List.mem_of_getElem? (i := 76) rfl)) (ty := .float) (by decide) rfl rfl (g := (mkF m 7 #[.val (.ref self)] [(.float (1061158912 : UInt32)), (.ref self)])) rfl rfl (hb hby d7_7)
  have Fw2 := G1.same W2
  have z2 : h2.size = h0.size := W2.size
  have gn3 : n0 ≤ self := by omega
  have N2 := Fr.snoc X2 N1 gn3
  have K2 : Keep h0 h2 [self] := K0.wr W2 (Or.inl (List.mem_of_getElem? (i := 0) rfl))
  refine Comes.st st2 ?_
  show Comes p e below _ (T2.setTop (mkF m 10 #[.val (.ref self)] []))
  have F4 : Exa Z h2 self "java/util/HashMap" := (G0.wr W2)
  exact Comes.ret0 X2 hx Bd.returns hlk (hb hby d7_10) e2 ⟨rfl, N2, K2, F4⟩ (by decide) (by decide)
def Q_hmL (Z : State) (self : Nat) (h0 : Heap) (n0 : Nat) (v : Option Value) (h : Heap) (L : List Loc) : Prop := (v = none) ∧ (Fr n0 L) ∧ (Keep h0 h [self]) ∧ (Exa Z h self "java/util/LinkedHashMap") ∧ (Fld Z h self "java/util/HashMap" "loadFactor" "F" (.float (1061158912 : UInt32))) ∧ (Fld Z h self "java/util/LinkedHashMap" "putMode" "I" (.int (0 : Int32))) ∧ (Fld Z h self "java/util/LinkedHashMap" "accessOrder" "Z" (.int (0 : Int32))) ∧ (Fld Z h self "java/util/HashMap" "threshold" "I" (.int (0 : Int32)))
set_option maxRecDepth 65536 in
set_option maxHeartbeats 40000000 in
theorem hmL (l : Launch) (Z : State) (a0 : Array Value) (hw : ∀ d ∈ tables_1, d.before a0 Z = true) (ws : List Jvm.Cond) (self : Nat) (h0 : Heap) (n0 : Nat) (Z0 : n0 ≤ h0.size) (G0 : Exa Z h0 self "java/util/LinkedHashMap") (G1 : Fld Z h0 self "java/util/HashMap" "loadFactor" "F" (.float 0)) (G2 : Fld Z h0 self "java/util/LinkedHashMap" "putMode" "I" (.int (0 : Int32))) (G3 : Fld Z h0 self "java/util/LinkedHashMap" "accessOrder" "Z" (.int (0 : Int32))) (G4 : Fld Z h0 self "java/util/HashMap" "threshold" "I" (.int (0 : Int32))) (G5 : n0 ≤ self) :
    MetFree l (⟨"java/util/HashMap", "<init>", "()V"⟩ : MethodName) (head1 (Jvm.Cond.code (⟨"java/util/HashMap", "<init>", "()V"⟩ : MethodName) jdk_69_method_7_code 1 none :: ws) ({ frames := 2, cells := 0, slots := 0, locals := 24 } : Room)) (fun a U => a = #[(.ref self)] ∧ Z.Warmed39 U.vm ∧ U.heap = h0) (fun _ _ _ _ _ => True) (fun _ U o U' => ∃ v L, o = .returned v ∧ Q_hmL Z self h0 n0 v U'.heap L ∧ FrameEnd U o U' L ({ frames := 2, cells := 0, slots := 0, locals := 24 } : Room).cells ({ frames := 2, cells := 0, slots := 0, locals := 24 } : Room).slots) := by
  refine MetFree.of_bodySF (plainFor_of_name pn_7) hisR ?_
  intro p e s m args below meth c s₁ Bd hml0 hP hK
  obtain ⟨rfl, hZ, hh⟩ := hP
  have hx := Bd.exec
  have hby := Bd.bytes
  have hml : c.maxLocals = 1 := hml0
  have hown : s.vm.findClass "java/util/HashMap" = some m.cls := findClass_of_methodNamed Bd.named
  have hnm := (name_of_methodNamed Bd.named Bd.method).1
  have hlk : meth.locks = false := Bd.notSynchronized
  have X0 : Stand p l e ({ frames := 2, cells := 0, slots := 0, locals := 24 } : Room) s m #[(.ref self)] below meth c s₁ [] 0 0 := Stand.of_body Bd
  have e0 : s₁.heap = h0 := by rw [← hh, Bd.state]; rfl
  have N0 := Fr.nil n0
  have K0 := Keep.refl h0 [self]
  refine Comes.out (Q := Q_hmL Z self h0 n0) (kc := ({ frames := 2, cells := 0, slots := 0, locals := 24 } : Room).cells) (ks := ({ frames := 2, cells := 0, slots := 0, locals := 24 } : Room).slots) ?_
  refine Comes.cast (ef_hmL m self) ?_
  have lt_self : self < h0.size := G0.lt
  show Comes p e below _ (s₁.setTop (mkF m 0 #[.val (.ref self)] []))
  refine Comes.st (fun t k => XS.aloadN X0.here hx rfl (hb hby d7_0) rfl rfl k) ?_
  show Comes p e below _ (s₁.setTop (mkF m 1 #[.val (.ref self)] [(.ref self)]))
  obtain ⟨_, _, ⟨T1, L1, k1, n1⟩, -, X1, ⟨Lc1, hQ1, l1, y1, z1⟩, st1⟩ := X0.specialBack hx (y := (⟨"java/util/AbstractMap", "<init>", "()V"⟩ : MethodName)) rfl hown (mvT hZ (hw _ (List.mem_of_getElem? (i := 59) rfl))) (mvT hZ (hw _ (List.mem_of_getElem? (i := 60) rfl))) (mvT hZ (hw _ (List.mem_of_getElem? (i := 64) rfl))) (by decide) (backOf (W := 0) (rm8 l Z a0 hw [] self h0 n0 (by omega)  ) hZ (hw _ (List.mem_of_getElem? (i := 64) rfl)) (hw _ (List.mem_of_getElem? (i := 63) rfl)) (by decide) (by decide)) (g := (mkF m 1 #[.val (.ref self)] [(.ref self)])) rfl (by rw [hml]; rfl) (Steps.refl _) (a := self) (argsL := []) (rest := []) (lenOf pd_0 rfl) rfl (by show 2 * 0 + _ ≤ _; exact Nat.le_of_eq rfl) (hb hby d7_1) (fun _ _ => ⟨rfl, e0, (by decide : 0 + 0 ≤ _), (by decide : 0 + 0 ≤ _)⟩)
  dsimp only [Pt.U, Pt.locs, Pt.cells, Pt.slots] at X1 l1 y1 z1 st1 hQ1
  subst l1 y1 z1
  obtain ⟨rfl, Nq1, hs1⟩ := hQ1
  have N1 := Fr.app N0 Nq1
  refine Comes.go st1 ?_
  show Comes p e below _ (T1.setTop (mkF m 4 #[.val (.ref self)] []))
  refine Comes.st (fun t k => XS.aloadN X1.here hx rfl (hb hby d7_4) rfl rfl (X1.ldcFloatC hx hown (mvT hZ (hw _ (List.mem_of_getElem? (i := 66) rfl))) (g := (mkF m 5 #[.val (.ref self)] [(.ref self)])) rfl (hb hby d7_5) _ k)) ?_
  show Comes p e below _ (T1.setTop (mkF m 7 #[.val (.ref self)] [(.float (1061158912 : UInt32)), (.ref self)]))
  obtain ⟨T2, h2, X2, e2, W2, st2⟩ := putF X1 hx hZ hown (host := "") (Or.inl (hw _ (List.mem_of_getElem? (i := 67) rfl))) Via.refl hs1 G1 G0 (Or.inr ⟨(hw _ (List.mem_of_getElem? (i := 68) rfl)), rfl, hnm⟩) (hw _ (List.mem_of_getElem? (i := 48) rfl)) (ty := .float) (by decide) rfl rfl (g := (mkF m 7 #[.val (.ref self)] [(.float (1061158912 : UInt32)), (.ref self)])) rfl rfl (hb hby d7_7)
  have Fw2 := G1.same W2
  have z2 : h2.size = h0.size := W2.size
  have gn3 : n0 ≤ self := by omega
  have N2 := Fr.snoc X2 N1 gn3
  have K2 : Keep h0 h2 [self] := K0.wr W2 (Or.inl (List.mem_of_getElem? (i := 0) rfl))
  refine Comes.st st2 ?_
  show Comes p e below _ (T2.setTop (mkF m 10 #[.val (.ref self)] []))
  have F4 : Exa Z h2 self "java/util/LinkedHashMap" := (G0.wr W2)
  have F5 : Fld Z h2 self "java/util/LinkedHashMap" "putMode" "I" (.int (0 : Int32)) := (G2.other W2 (Or.inr (slot_ne (Or.inl (hw _ (List.mem_of_getElem? (i := 70) rfl))) (Or.inr (hw _ (List.mem_of_getElem? (i := 68) rfl))) (by decide) (t := .int) (t' := .float) (by decide) (by decide))))
  have F6 : Fld Z h2 self "java/util/LinkedHashMap" "accessOrder" "Z" (.int (0 : Int32)) := (G3.other W2 (Or.inr (slot_ne (Or.inr (hw _ (List.mem_of_getElem? (i := 72) rfl))) (Or.inr (hw _ (List.mem_of_getElem? (i := 68) rfl))) (by decide) (t := .boolean) (t' := .float) (by decide) (by decide))))
  have F7 : Fld Z h2 self "java/util/HashMap" "threshold" "I" (.int (0 : Int32)) := (G4.other W2 (Or.inr (slot_ne (Or.inl (hw _ (List.mem_of_getElem? (i := 128) rfl))) (Or.inr (hw _ (List.mem_of_getElem? (i := 68) rfl))) (by decide) (t := .int) (t' := .float) (by decide) (by decide))))
  exact Comes.ret0 X2 hx Bd.returns hlk (hb hby d7_10) e2 ⟨rfl, N2, K2, F4, Fw2, F5, F6, F7⟩ (by decide) (by decide)
def Q_rm6 (Z : State) (self : Nat) (h0 : Heap) (n0 : Nat) (v : Option Value) (h : Heap) (L : List Loc) : Prop := (v = none) ∧ (Fr n0 L) ∧ (Keep h0 h [self]) ∧ (Exa Z h self "java/util/LinkedHashMap")
set_option maxRecDepth 65536 in
set_option maxHeartbeats 40000000 in
theorem rm6 (l : Launch) (Z : State) (a0 : Array Value) (hw : ∀ d ∈ tables_1, d.before a0 Z = true) (ws : List Jvm.Cond) (self : Nat) (h0 : Heap) (n0 : Nat) (Z0 : n0 ≤ h0.size) (G0 : Exa Z h0 self "java/util/LinkedHashMap") (G1 : Fld Z h0 self "java/util/HashMap" "loadFactor" "F" (.float 0)) (G2 : Fld Z h0 self "java/util/LinkedHashMap" "putMode" "I" (.int (0 : Int32))) (G3 : Fld Z h0 self "java/util/LinkedHashMap" "accessOrder" "Z" (.int (0 : Int32))) (G4 : Fld Z h0 self "java/util/HashMap" "threshold" "I" (.int (0 : Int32))) (G5 : n0 ≤ self) :
    MetFree l (⟨"java/util/LinkedHashMap", "<init>", "()V"⟩ : MethodName) (head1 (Jvm.Cond.code (⟨"java/util/LinkedHashMap", "<init>", "()V"⟩ : MethodName) jdk_94_method_16_code 1 none :: ws) ({ frames := 3, cells := 0, slots := 0, locals := 36 } : Room)) (fun a U => a = #[(.ref self)] ∧ Z.Warmed39 U.vm ∧ U.heap = h0) (fun _ _ _ _ _ => True) (fun _ U o U' => ∃ v L, o = .returned v ∧ Q_rm6 Z self h0 n0 v U'.heap L ∧ FrameEnd U o U' L ({ frames := 3, cells := 0, slots := 0, locals := 36 } : Room).cells ({ frames := 3, cells := 0, slots := 0, locals := 36 } : Room).slots) := by
  refine MetFree.of_bodySF (plainFor_of_name pn_6) hisR ?_
  intro p e s m args below meth c s₁ Bd hml0 hP hK
  obtain ⟨rfl, hZ, hh⟩ := hP
  have hx := Bd.exec
  have hby := Bd.bytes
  have hml : c.maxLocals = 1 := hml0
  have hown : s.vm.findClass "java/util/LinkedHashMap" = some m.cls := findClass_of_methodNamed Bd.named
  have hnm := (name_of_methodNamed Bd.named Bd.method).1
  have hlk : meth.locks = false := Bd.notSynchronized
  have X0 : Stand p l e ({ frames := 3, cells := 0, slots := 0, locals := 36 } : Room) s m #[(.ref self)] below meth c s₁ [] 0 0 := Stand.of_body Bd
  have e0 : s₁.heap = h0 := by rw [← hh, Bd.state]; rfl
  have N0 := Fr.nil n0
  have K0 := Keep.refl h0 [self]
  refine Comes.out (Q := Q_rm6 Z self h0 n0) (kc := ({ frames := 3, cells := 0, slots := 0, locals := 36 } : Room).cells) (ks := ({ frames := 3, cells := 0, slots := 0, locals := 36 } : Room).slots) ?_
  refine Comes.cast (ef_rm6 m self) ?_
  have lt_self : self < h0.size := G0.lt
  show Comes p e below _ (s₁.setTop (mkF m 0 #[.val (.ref self)] []))
  refine Comes.st (fun t k => XS.aloadN X0.here hx rfl (hb hby d6_0) rfl rfl k) ?_
  show Comes p e below _ (s₁.setTop (mkF m 1 #[.val (.ref self)] [(.ref self)]))
  obtain ⟨_, _, ⟨T1, L1, k1, n1⟩, -, X1, ⟨Lc1, hQ1, l1, y1, z1⟩, st1⟩ := X0.specialBack hx (y := (⟨"java/util/HashMap", "<init>", "()V"⟩ : MethodName)) rfl hown (mvT hZ (hw _ (List.mem_of_getElem? (i := 53) rfl))) (mvT hZ (hw _ (List.mem_of_getElem? (i := 54) rfl))) (mvT hZ (hw _ (List.mem_of_getElem? (i := 58) rfl))) (by decide) (backOf (W := 0) (hmL l Z a0 hw [] self h0 n0 (by omega)  G0 G1 G2 G3 G4 (by omega)) hZ (hw _ (List.mem_of_getElem? (i := 58) rfl)) (hw _ (List.mem_of_getElem? (i := 57) rfl)) (by decide) (by decide)) (g := (mkF m 1 #[.val (.ref self)] [(.ref self)])) rfl (by rw [hml]; rfl) (Steps.refl _) (a := self) (argsL := []) (rest := []) (lenOf pd_0 rfl) rfl (by show 2 * 0 + _ ≤ _; exact Nat.le_of_eq rfl) (hb hby d6_1) (fun _ _ => ⟨rfl, e0, (by decide : 0 + 0 ≤ _), (by decide : 0 + 0 ≤ _)⟩)
  dsimp only [Pt.U, Pt.locs, Pt.cells, Pt.slots] at X1 l1 y1 z1 st1 hQ1
  subst l1 y1 z1
  obtain ⟨rfl, Nq1, Kq1, P1_0, P1_1, P1_2, P1_3, P1_4⟩ := hQ1
  have N1 := Fr.app N0 Nq1
  have z1k : h0.size ≤ T1.heap.size := Kq1.1
  have K1 : Keep h0 T1.heap [self] := K0.trans Kq1 (allS (Or.inl (List.mem_of_getElem? (i := 0) rfl)) all0)
  refine Comes.go st1 ?_
  show Comes p e below _ (T1.setTop (mkF m 4 #[.val (.ref self)] []))
  refine Comes.st (fun t k => XS.aloadN X1.here hx rfl (hb hby d6_4) rfl rfl (XS.iconst X1.here hx rfl (hb hby d6_5) k)) ?_
  show Comes p e below _ (T1.setTop (mkF m 6 #[.val (.ref self)] [(.int (0 : Int32)), (.ref self)]))
  obtain ⟨T2, h2, X2, e2, W2, st2⟩ := putF X1 hx hZ hown (host := "") (Or.inl (hw _ (List.mem_of_getElem? (i := 69) rfl))) Via.refl rfl P1_2 P1_0 (Or.inl (hw _ (List.mem_of_getElem? (i := 70) rfl))) (hw _ (List.mem_of_getElem? (i := 48) rfl)) (ty := .int) (by decide) rfl rfl (g := (mkF m 6 #[.val (.ref self)] [(.int (0 : Int32)), (.ref self)])) rfl rfl (hb hby d6_6)
  have Fw2 := P1_2.same W2
  have z2 : h2.size = T1.heap.size := W2.size
  have gn3 : n0 ≤ self := by omega
  have N2 := Fr.snoc X2 N1 gn3
  have K2 : Keep h0 h2 [self] := K1.wr W2 (Or.inl (List.mem_of_getElem? (i := 0) rfl))
  refine Comes.st st2 ?_
  show Comes p e below _ (T2.setTop (mkF m 9 #[.val (.ref self)] []))
  refine Comes.st (fun t k => XS.aloadN X2.here hx rfl (hb hby d6_9) rfl rfl (XS.iconst X2.here hx rfl (hb hby d6_10) k)) ?_
  show Comes p e below _ (T2.setTop (mkF m 11 #[.val (.ref self)] [(.int (0 : Int32)), (.ref self)]))
  have F4 : Exa Z h2 self "java/util/LinkedHashMap" := (P1_0.wr W2)
  have F5 : Fld Z h2 self "java/util/LinkedHashMap" "accessOrder" "Z" (.int (0 : Int32)) := (P1_3.other W2 (Or.inr (slot_ne (Or.inr (hw _ (List.mem_of_getElem? (i := 72) rfl))) (Or.inl (hw _ (List.mem_of_getElem? (i := 70) rfl))) (by decide) (t := .boolean) (t' := .int) (by decide) (by decide))))
  obtain ⟨T6, h6, X6, e6, W6, st6⟩ := putFN X2 hx hZ hown (hw _ (List.mem_of_getElem? (i := 71) rfl)) Via.refl e2 F5 F4 (Or.inr ⟨(hw _ (List.mem_of_getElem? (i := 72) rfl)), rfl, hnm⟩) (hw _ (List.mem_of_getElem? (i := 48) rfl)) (ty := .boolean) (v' := (.int (nar .boolean (0 : Int32)))) (by decide) rfl (fits_nar_bool _) (g := (mkF m 11 #[.val (.ref self)] [(.int (0 : Int32)), (.ref self)])) rfl rfl (hb hby d6_11)
  have Fw6 := F5.same W6
  have z6 : h6.size = h2.size := W6.size
  have N6 := Fr.snoc X6 N2 gn3
  have K6 : Keep h0 h6 [self] := K2.wr W6 (Or.inl (List.mem_of_getElem? (i := 0) rfl))
  refine Comes.st st6 ?_
  show Comes p e below _ (T6.setTop (mkF m 14 #[.val (.ref self)] []))
  have F7 : Exa Z h6 self "java/util/LinkedHashMap" := (F4.wr W6)
  exact Comes.ret0 X6 hx Bd.returns hlk (hb hby d6_14) e6 ⟨rfl, N6, K6, F7⟩ (by decide) (by decide)
def Q_rm14 (Z : State)  (h0 : Heap) (n0 : Nat) (v : Option Value) (h : Heap) (L : List Loc) : Prop := (v = some (.int (0 : Int32))) ∧ (Fr n0 L) ∧ (h = h0)
set_option maxRecDepth 65536 in
set_option maxHeartbeats 40000000 in
theorem rm14 (l : Launch) (Z : State) (a0 : Array Value) (hw : ∀ d ∈ tables_1, d.before a0 Z = true) (ws : List Jvm.Cond)  (h0 : Heap) (n0 : Nat) (Z0 : n0 ≤ h0.size) :
    MetFree l (⟨"java/lang/Float", "isNaN", "(F)Z"⟩ : MethodName) (head1 (Jvm.Cond.code (⟨"java/lang/Float", "isNaN", "(F)Z"⟩ : MethodName) jdk_118_method_6_code 1 (some .boolean) :: ws) ({ frames := 0, cells := 0, slots := 0, locals := 0 } : Room)) (fun a U => a = #[(.float (1061158912 : UInt32))] ∧ Z.Warmed39 U.vm ∧ U.heap = h0) (fun _ _ _ _ _ => True) (fun _ U o U' => ∃ v L, o = .returned v ∧ Q_rm14 Z  h0 n0 v U'.heap L ∧ FrameEnd U o U' L ({ frames := 0, cells := 0, slots := 0, locals := 0 } : Room).cells ({ frames := 0, cells := 0, slots := 0, locals := 0 } : Room).slots) := by
  refine MetFree.of_bodySF pn_14 hisR ?_
  intro p e s m args below meth c s₁ Bd hml0 hP hK
  obtain ⟨rfl, hZ, hh⟩ := hP
  have hx := Bd.exec
  have hby := Bd.bytes
  have hml : c.maxLocals = 1 := hml0
  have hown : s.vm.findClass "java/lang/Float" = some m.cls := findClass_of_methodNamed Bd.named
  have hnm := (name_of_methodNamed Bd.named Bd.method).1
  have hlk : meth.locks = false := Bd.notSynchronized
  have X0 : Stand p l e ({ frames := 0, cells := 0, slots := 0, locals := 0 } : Room) s m #[(.float (1061158912 : UInt32))] below meth c s₁ [] 0 0 := Stand.of_body Bd
  have e0 : s₁.heap = h0 := by rw [← hh, Bd.state]; rfl
  have N0 := Fr.nil n0
  refine Comes.out (Q := Q_rm14 Z  h0 n0) (kc := ({ frames := 0, cells := 0, slots := 0, locals := 0 } : Room).cells) (ks := ({ frames := 0, cells := 0, slots := 0, locals := 0 } : Room).slots) ?_
  refine Comes.cast (ef_rm14 m ) ?_
  show Comes p e below _ (s₁.setTop (mkF m 0 #[.val (.float (1061158912 : UInt32))] []))
  refine Comes.st (fun t k => XS.floadN X0.here hx rfl (hb hby d14_0) rfl (XS.floadN X0.here hx rfl (hb hby d14_1) rfl k)) ?_
  show Comes p e below _ (s₁.setTop (mkF m 2 #[.val (.float (1061158912 : UInt32))] [(.float (1061158912 : UInt32)), (.float (1061158912 : UInt32))]))
  refine Comes.st (fun t k => XS.fcmpS X0.here hx rfl (hb hby d14_2) (v := (0 : Int32)) rfl (by decide +kernel) k) ?_
  show Comes p e below _ (s₁.setTop (mkF m 3 #[.val (.float (1061158912 : UInt32))] [(.int (0 : Int32))]))
  have hc3_1 : (0 : Int32) = (0 : Int32) := by decide
  refine Comes.st (fun t k => XS.ifYes X0.here hx rfl (pc0 := 3) (pc' := 10) rfl (hb hby d14_3) rfl ((if0 _ _).trans (teq hc3_1).1) (by decide) (by decide) (XS.iconst X0.here hx rfl (hb hby d14_10) k)) ?_
  show Comes p e below _ (s₁.setTop (mkF m 11 #[.val (.float (1061158912 : UInt32))] [(.int (0 : Int32))]))
  exact Comes.retN X0 hx (t := .boolean) Bd.returns (by simp) hlk (hb hby d14_11) e0 ⟨rfl, N0, rfl⟩ (by decide) (by decide)
def Q_rm16 (Z : State)  (h0 : Heap) (n0 : Nat) (v : Option Value) (h : Heap) (L : List Loc) : Prop := (v = some (.int (28 : Int32))) ∧ (Fr n0 L) ∧ (h = h0)
set_option maxRecDepth 65536 in
set_option maxHeartbeats 40000000 in
theorem rm16 (l : Launch) (Z : State) (a0 : Array Value) (hw : ∀ d ∈ tables_1, d.before a0 Z = true) (ws : List Jvm.Cond)  (h0 : Heap) (n0 : Nat) (Z0 : n0 ≤ h0.size) :
    MetFree l (⟨"java/lang/Integer", "numberOfLeadingZeros", "(I)I"⟩ : MethodName) (head1 (Jvm.Cond.code (⟨"java/lang/Integer", "numberOfLeadingZeros", "(I)I"⟩ : MethodName) jdk_33_method_47_code 2 (some .int) :: ws) ({ frames := 0, cells := 0, slots := 0, locals := 0 } : Room)) (fun a U => a = #[(.int (15 : Int32))] ∧ Z.Warmed39 U.vm ∧ U.heap = h0) (fun _ _ _ _ _ => True) (fun _ U o U' => ∃ v L, o = .returned v ∧ Q_rm16 Z  h0 n0 v U'.heap L ∧ FrameEnd U o U' L ({ frames := 0, cells := 0, slots := 0, locals := 0 } : Room).cells ({ frames := 0, cells := 0, slots := 0, locals := 0 } : Room).slots) := by
  refine MetFree.of_bodySF (plainFor_of_name pn_16) hisR ?_
  intro p e s m args below meth c s₁ Bd hml0 hP hK
  obtain ⟨rfl, hZ, hh⟩ := hP
  have hx := Bd.exec
  have hby := Bd.bytes
  have hml : c.maxLocals = 2 := hml0
  have hown : s.vm.findClass "java/lang/Integer" = some m.cls := findClass_of_methodNamed Bd.named
  have hnm := (name_of_methodNamed Bd.named Bd.method).1
  have hlk : meth.locks = false := Bd.notSynchronized
  have X0 : Stand p l e ({ frames := 0, cells := 0, slots := 0, locals := 0 } : Room) s m #[(.int (15 : Int32))] below meth c s₁ [] 0 0 := Stand.of_body Bd
  have e0 : s₁.heap = h0 := by rw [← hh, Bd.state]; rfl
  have N0 := Fr.nil n0
  refine Comes.out (Q := Q_rm16 Z  h0 n0) (kc := ({ frames := 0, cells := 0, slots := 0, locals := 0 } : Room).cells) (ks := ({ frames := 0, cells := 0, slots := 0, locals := 0 } : Room).slots) ?_
  refine Comes.cast (ef_rm16 m ) ?_
  show Comes p e below _ (s₁.setTop (mkF m 0 #[.val (.int (15 : Int32)), .unset] []))
  refine Comes.st (fun t k => XS.iloadN X0.here hx rfl (hb hby d16_0) rfl k) ?_
  show Comes p e below _ (s₁.setTop (mkF m 1 #[.val (.int (15 : Int32)), .unset] [(.int (15 : Int32))]))
  have hc1_1 : (0 : Int32) < (15 : Int32) := by decide
  refine Comes.st (fun t k => XS.ifYes X0.here hx rfl (pc0 := 1) (pc' := 15) rfl (hb hby d16_1) rfl ((if0 _ _).trans (tlt hc1_1).2.2.1) (by decide) (by decide) (XS.bipush X0.here hx rfl (hb hby d16_15) (XS.istoreN X0.here hx rfl (hb hby d16_17) rfl (l' := #[.val (.int (15 : Int32)), .val (.int (31 : Int32))]) rfl (XS.iloadN X0.here hx rfl (hb hby d16_18) rfl (X0.ldcWInt hx hown (mvT hZ (hw _ (List.mem_of_getElem? (i := 126) rfl))) (g := (mkF m 19 #[.val (.int (15 : Int32)), .val (.int (31 : Int32))] [(.int (15 : Int32))])) rfl (hb hby d16_19) _ k))))) ?_
  show Comes p e below _ (s₁.setTop (mkF m 22 #[.val (.int (15 : Int32)), .val (.int (31 : Int32))] [(.int (65536 : Int32)), (.int (15 : Int32))]))
  have hc22_2 : (15 : Int32) < (65536 : Int32) := by decide
  refine Comes.st (fun t k => XS.icmpYes X0.here hx rfl (pc0 := 22) (pc' := 33) rfl (hb hby d16_22) rfl (tlt hc22_2).1 (by decide) (by decide) (XS.iloadN X0.here hx rfl (hb hby d16_33) rfl (XS.sipush X0.here hx rfl (hb hby d16_34) k))) ?_
  show Comes p e below _ (s₁.setTop (mkF m 37 #[.val (.int (15 : Int32)), .val (.int (31 : Int32))] [(.int (256 : Int32)), (.int (15 : Int32))]))
  have hc37_3 : (15 : Int32) < (256 : Int32) := by decide
  refine Comes.st (fun t k => XS.icmpYes X0.here hx rfl (pc0 := 37) (pc' := 48) rfl (hb hby d16_37) rfl (tlt hc37_3).1 (by decide) (by decide) (XS.iloadN X0.here hx rfl (hb hby d16_48) rfl (XS.bipush X0.here hx rfl (hb hby d16_49) k))) ?_
  show Comes p e below _ (s₁.setTop (mkF m 51 #[.val (.int (15 : Int32)), .val (.int (31 : Int32))] [(.int (16 : Int32)), (.int (15 : Int32))]))
  have hc51_4 : (15 : Int32) < (16 : Int32) := by decide
  refine Comes.st (fun t k => XS.icmpYes X0.here hx rfl (pc0 := 51) (pc' := 61) rfl (hb hby d16_51) rfl (tlt hc51_4).1 (by decide) (by decide) (XS.iloadN X0.here hx rfl (hb hby d16_61) rfl (XS.iconst X0.here hx rfl (hb hby d16_62) k))) ?_
  show Comes p e below _ (s₁.setTop (mkF m 63 #[.val (.int (15 : Int32)), .val (.int (31 : Int32))] [(.int (4 : Int32)), (.int (15 : Int32))]))
  have hc63_5 : ¬ ((15 : Int32) < (4 : Int32)) := by decide
  refine Comes.st (fun t k => XS.icmpNo X0.here hx rfl (hb hby d16_63) rfl (flt hc63_5).1 (XS.iinc X0.here hx rfl (hb hby d16_66) rfl (l' := #[.val (.int (15 : Int32)), .val (.int (29 : Int32))]) rfl (XS.iloadN X0.here hx rfl (hb hby d16_69) rfl (XS.iconst X0.here hx rfl (hb hby d16_70) (XS.iushr X0.here hx rfl (hb hby d16_71) rfl k))))) ?_
  show Comes p e below _ (s₁.setTop (mkF m 72 #[.val (.int (15 : Int32)), .val (.int (29 : Int32))] [(.int (((15 : Int32).toUInt32 >>> ((2 : Int32) &&& 31).toUInt32).toInt32))]))
  rw [show (((15 : Int32).toUInt32 >>> ((2 : Int32) &&& 31).toUInt32).toInt32) = (3 : Int32) from by decide]
  show Comes p e below _ (s₁.setTop (mkF m 72 #[.val (.int (15 : Int32)), .val (.int (29 : Int32))] [(.int (3 : Int32))]))
  refine Comes.st (fun t k => XS.istoreN X0.here hx rfl (hb hby d16_72) rfl (l' := #[.val (.int (3 : Int32)), .val (.int (29 : Int32))]) rfl (XS.iloadN X0.here hx rfl (hb hby d16_73) rfl (XS.iloadN X0.here hx rfl (hb hby d16_74) rfl (XS.iconst X0.here hx rfl (hb hby d16_75) (XS.iushr X0.here hx rfl (hb hby d16_76) rfl k))))) ?_
  show Comes p e below _ (s₁.setTop (mkF m 77 #[.val (.int (3 : Int32)), .val (.int (29 : Int32))] [(.int (((3 : Int32).toUInt32 >>> ((1 : Int32) &&& 31).toUInt32).toInt32)), (.int (29 : Int32))]))
  rw [show (((3 : Int32).toUInt32 >>> ((1 : Int32) &&& 31).toUInt32).toInt32) = (1 : Int32) from by decide]
  show Comes p e below _ (s₁.setTop (mkF m 77 #[.val (.int (3 : Int32)), .val (.int (29 : Int32))] [(.int (1 : Int32)), (.int (29 : Int32))]))
  refine Comes.st (fun t k => XS.isub X0.here hx rfl (hb hby d16_77) rfl k) ?_
  show Comes p e below _ (s₁.setTop (mkF m 78 #[.val (.int (3 : Int32)), .val (.int (29 : Int32))] [(.int ((29 : Int32) - (1 : Int32)))]))
  rw [show ((29 : Int32) - (1 : Int32)) = (28 : Int32) from by decide]
  show Comes p e below _ (s₁.setTop (mkF m 78 #[.val (.int (3 : Int32)), .val (.int (29 : Int32))] [(.int (28 : Int32))]))
  exact Comes.retV X0 hx Bd.returns rfl (Or.inl ⟨rfl, Or.inl rfl, _, rfl⟩) hlk (hb hby d16_78) e0 ⟨rfl, N0, rfl⟩ (by decide) (by decide)
def Q_rm15 (Z : State)  (h0 : Heap) (n0 : Nat) (v : Option Value) (h : Heap) (L : List Loc) : Prop := (v = some (.int (16 : Int32))) ∧ (Fr n0 L) ∧ (h = h0)
set_option maxRecDepth 65536 in
set_option maxHeartbeats 40000000 in
theorem rm15 (l : Launch) (Z : State) (a0 : Array Value) (hw : ∀ d ∈ tables_1, d.before a0 Z = true) (ws : List Jvm.Cond)  (h0 : Heap) (n0 : Nat) (Z0 : n0 ≤ h0.size) :
    MetFree l (⟨"java/util/HashMap", "tableSizeFor", "(I)I"⟩ : MethodName) (head1 (Jvm.Cond.code (⟨"java/util/HashMap", "tableSizeFor", "(I)I"⟩ : MethodName) jdk_69_method_4_code 2 (some .int) :: ws) ({ frames := 1, cells := 0, slots := 0, locals := 14 } : Room)) (fun a U => a = #[(.int (16 : Int32))] ∧ Z.Warmed39 U.vm ∧ U.heap = h0) (fun _ _ _ _ _ => True) (fun _ U o U' => ∃ v L, o = .returned v ∧ Q_rm15 Z  h0 n0 v U'.heap L ∧ FrameEnd U o U' L ({ frames := 1, cells := 0, slots := 0, locals := 14 } : Room).cells ({ frames := 1, cells := 0, slots := 0, locals := 14 } : Room).slots) := by
  refine MetFree.of_bodySF (plainFor_of_name pn_15) hisR ?_
  intro p e s m args below meth c s₁ Bd hml0 hP hK
  obtain ⟨rfl, hZ, hh⟩ := hP
  have hx := Bd.exec
  have hby := Bd.bytes
  have hml : c.maxLocals = 2 := hml0
  have hown : s.vm.findClass "java/util/HashMap" = some m.cls := findClass_of_methodNamed Bd.named
  have hnm := (name_of_methodNamed Bd.named Bd.method).1
  have hlk : meth.locks = false := Bd.notSynchronized
  have X0 : Stand p l e ({ frames := 1, cells := 0, slots := 0, locals := 14 } : Room) s m #[(.int (16 : Int32))] below meth c s₁ [] 0 0 := Stand.of_body Bd
  have e0 : s₁.heap = h0 := by rw [← hh, Bd.state]; rfl
  have N0 := Fr.nil n0
  refine Comes.out (Q := Q_rm15 Z  h0 n0) (kc := ({ frames := 1, cells := 0, slots := 0, locals := 14 } : Room).cells) (ks := ({ frames := 1, cells := 0, slots := 0, locals := 14 } : Room).slots) ?_
  refine Comes.cast (ef_rm15 m ) ?_
  show Comes p e below _ (s₁.setTop (mkF m 0 #[.val (.int (16 : Int32)), .unset] []))
  refine Comes.st (fun t k => XS.iconst X0.here hx rfl (hb hby d15_0) (XS.iloadN X0.here hx rfl (hb hby d15_1) rfl (XS.iconst X0.here hx rfl (hb hby d15_2) (XS.isub X0.here hx rfl (hb hby d15_3) rfl k)))) ?_
  show Comes p e below _ (s₁.setTop (mkF m 4 #[.val (.int (16 : Int32)), .unset] [(.int ((16 : Int32) - (1 : Int32))), (.int (-1 : Int32))]))
  rw [show ((16 : Int32) - (1 : Int32)) = (15 : Int32) from by decide]
  show Comes p e below _ (s₁.setTop (mkF m 4 #[.val (.int (16 : Int32)), .unset] [(.int (15 : Int32)), (.int (-1 : Int32))]))
  obtain ⟨_, _, ⟨T1, L1, k1, n1⟩, -, X1, ⟨Lc1, hQ1, l1, y1, z1⟩, st1⟩ := Jvm.LawKit.callS X0 hx (y := (⟨"java/lang/Integer", "numberOfLeadingZeros", "(I)I"⟩ : MethodName)) hown (mvT hZ (hw _ (List.mem_of_getElem? (i := 122) rfl))) (mvT hZ (hw _ (List.mem_of_getElem? (i := 123) rfl))) (mvT hZ (hw _ (List.mem_of_getElem? (i := 124) rfl))) (mvT hZ (hw _ (List.mem_of_getElem? (i := 125) rfl))) (by decide) (backOf (W := 1) (rm16 l Z a0 hw []  h0 n0 (by omega)  ) hZ (hw _ (List.mem_of_getElem? (i := 125) rfl)) (hw _ (List.mem_of_getElem? (i := 124) rfl)) (by decide) (by decide)) (g := (mkF m 4 #[.val (.int (16 : Int32)), .unset] [(.int (15 : Int32)), (.int (-1 : Int32))])) rfl (by rw [hml]; rfl) (argsL := [(.int (15 : Int32))]) (rest := [(.int (-1 : Int32))]) (lenOf pd_1 rfl) rfl (by show 2 * 0 + _ ≤ _; exact Nat.le_of_eq rfl) (hb hby d15_4) (fun _ _ => ⟨rfl, e0, (by decide : 0 + 0 ≤ _), (by decide : 0 + 0 ≤ _)⟩)
  dsimp only [Pt.U, Pt.locs, Pt.cells, Pt.slots] at X1 l1 y1 z1 st1 hQ1
  subst l1 y1 z1
  obtain ⟨rfl, Nq1, hs1⟩ := hQ1
  have N1 := Fr.app N0 Nq1
  refine Comes.st st1 ?_
  show Comes p e below _ (T1.setTop (mkF m 7 #[.val (.int (16 : Int32)), .unset] [(.int (28 : Int32)), (.int (-1 : Int32))]))
  refine Comes.st (fun t k => XS.iushr X1.here hx rfl (hb hby d15_7) rfl k) ?_
  show Comes p e below _ (T1.setTop (mkF m 8 #[.val (.int (16 : Int32)), .unset] [(.int (((-1 : Int32).toUInt32 >>> ((28 : Int32) &&& 31).toUInt32).toInt32))]))
  rw [show (((-1 : Int32).toUInt32 >>> ((28 : Int32) &&& 31).toUInt32).toInt32) = (15 : Int32) from by decide]
  show Comes p e below _ (T1.setTop (mkF m 8 #[.val (.int (16 : Int32)), .unset] [(.int (15 : Int32))]))
  refine Comes.st (fun t k => XS.istoreN X1.here hx rfl (hb hby d15_8) rfl (l' := #[.val (.int (16 : Int32)), .val (.int (15 : Int32))]) rfl (XS.iloadN X1.here hx rfl (hb hby d15_9) rfl k)) ?_
  show Comes p e below _ (T1.setTop (mkF m 10 #[.val (.int (16 : Int32)), .val (.int (15 : Int32))] [(.int (15 : Int32))]))
  have hc10_2 : ¬ ((15 : Int32) < (0 : Int32)) := by decide
  refine Comes.st (fun t k => XS.ifYes X1.here hx rfl (pc0 := 10) (pc' := 17) rfl (hb hby d15_10) rfl ((if0 _ _).trans (flt hc10_2).2.1) (by decide) (by decide) (XS.iloadN X1.here hx rfl (hb hby d15_17) rfl (X1.ldcInt hx hown (mvT hZ (hw _ (List.mem_of_getElem? (i := 114) rfl))) (g := (mkF m 18 #[.val (.int (16 : Int32)), .val (.int (15 : Int32))] [(.int (15 : Int32))])) rfl (hb hby d15_18) _ k))) ?_
  show Comes p e below _ (T1.setTop (mkF m 20 #[.val (.int (16 : Int32)), .val (.int (15 : Int32))] [(.int (1073741824 : Int32)), (.int (15 : Int32))]))
  have hc20_3 : (15 : Int32) < (1073741824 : Int32) := by decide
  refine Comes.st (fun t k => XS.icmpYes X1.here hx rfl (pc0 := 20) (pc' := 28) rfl (hb hby d15_20) rfl (tlt hc20_3).1 (by decide) (by decide) (XS.iloadN X1.here hx rfl (hb hby d15_28) rfl (XS.iconst X1.here hx rfl (hb hby d15_29) (XS.iadd X1.here hx rfl (hb hby d15_30) rfl k)))) ?_
  show Comes p e below _ (T1.setTop (mkF m 31 #[.val (.int (16 : Int32)), .val (.int (15 : Int32))] [(.int ((15 : Int32) + (1 : Int32)))]))
  rw [show ((15 : Int32) + (1 : Int32)) = (16 : Int32) from by decide]
  show Comes p e below _ (T1.setTop (mkF m 31 #[.val (.int (16 : Int32)), .val (.int (15 : Int32))] [(.int (16 : Int32))]))
  exact Comes.retV X1 hx Bd.returns rfl (Or.inl ⟨rfl, Or.inl rfl, _, rfl⟩) hlk (hb hby d15_31) hs1 ⟨rfl, N1, rfl⟩ (by decide) (by decide)
def Q_rm13 (Z : State) (self : Nat) (h0 : Heap) (n0 : Nat) (v : Option Value) (h : Heap) (L : List Loc) : Prop := (v = none) ∧ (Fr n0 L) ∧ (Keep h0 h [self]) ∧ (Exa Z h self "java/util/LinkedHashMap") ∧ (Fld Z h self "java/util/HashMap" "loadFactor" "F" (.float (1061158912 : UInt32))) ∧ (Fld Z h self "java/util/LinkedHashMap" "putMode" "I" (.int (0 : Int32))) ∧ (Fld Z h self "java/util/LinkedHashMap" "accessOrder" "Z" (.int (0 : Int32))) ∧ (Fld Z h self "java/util/HashMap" "threshold" "I" (.int (16 : Int32)))
set_option maxRecDepth 65536 in
set_option maxHeartbeats 40000000 in
theorem rm13 (l : Launch) (Z : State) (a0 : Array Value) (hw : ∀ d ∈ tables_1, d.before a0 Z = true) (ws : List Jvm.Cond) (self : Nat) (h0 : Heap) (n0 : Nat) (Z0 : n0 ≤ h0.size) (G0 : Exa Z h0 self "java/util/LinkedHashMap") (G1 : Fld Z h0 self "java/util/HashMap" "loadFactor" "F" (.float 0)) (G2 : Fld Z h0 self "java/util/LinkedHashMap" "putMode" "I" (.int (0 : Int32))) (G3 : Fld Z h0 self "java/util/LinkedHashMap" "accessOrder" "Z" (.int (0 : Int32))) (G4 : Fld Z h0 self "java/util/HashMap" "threshold" "I" (.int (0 : Int32))) (G5 : n0 ≤ self) :
    MetFree l (⟨"java/util/HashMap", "<init>", "(IF)V"⟩ : MethodName) (head1 (Jvm.Cond.code (⟨"java/util/HashMap", "<init>", "(IF)V"⟩ : MethodName) jdk_69_method_5_code 3 none :: ws) ({ frames := 2, cells := 0, slots := 0, locals := 28 } : Room)) (fun a U => a = #[(.ref self), (.int (16 : Int32)), (.float (1061158912 : UInt32))] ∧ Z.Warmed39 U.vm ∧ U.heap = h0) (fun _ _ _ _ _ => True) (fun _ U o U' => ∃ v L, o = .returned v ∧ Q_rm13 Z self h0 n0 v U'.heap L ∧ FrameEnd U o U' L ({ frames := 2, cells := 0, slots := 0, locals := 28 } : Room).cells ({ frames := 2, cells := 0, slots := 0, locals := 28 } : Room).slots) := by
  refine MetFree.of_bodySF (plainFor_of_name pn_13) hisR ?_
  intro p e s m args below meth c s₁ Bd hml0 hP hK
  obtain ⟨rfl, hZ, hh⟩ := hP
  have hx := Bd.exec
  have hby := Bd.bytes
  have hml : c.maxLocals = 3 := hml0
  have hown : s.vm.findClass "java/util/HashMap" = some m.cls := findClass_of_methodNamed Bd.named
  have hnm := (name_of_methodNamed Bd.named Bd.method).1
  have hlk : meth.locks = false := Bd.notSynchronized
  have X0 : Stand p l e ({ frames := 2, cells := 0, slots := 0, locals := 28 } : Room) s m #[(.ref self), (.int (16 : Int32)), (.float (1061158912 : UInt32))] below meth c s₁ [] 0 0 := Stand.of_body Bd
  have e0 : s₁.heap = h0 := by rw [← hh, Bd.state]; rfl
  have N0 := Fr.nil n0
  have K0 := Keep.refl h0 [self]
  refine Comes.out (Q := Q_rm13 Z self h0 n0) (kc := ({ frames := 2, cells := 0, slots := 0, locals := 28 } : Room).cells) (ks := ({ frames := 2, cells := 0, slots := 0, locals := 28 } : Room).slots) ?_
  refine Comes.cast (ef_rm13 m self) ?_
  have lt_self : self < h0.size := G0.lt
  show Comes p e below _ (s₁.setTop (mkF m 0 #[.val (.ref self), .val (.int (16 : Int32)), .val (.float (1061158912 : UInt32))] []))
  refine Comes.st (fun t k => XS.aloadN X0.here hx rfl (hb hby d13_0) rfl rfl k) ?_
  show Comes p e below _ (s₁.setTop (mkF m 1 #[.val (.ref self), .val (.int (16 : Int32)), .val (.float (1061158912 : UInt32))] [(.ref self)]))
  obtain ⟨_, _, ⟨T1, L1, k1, n1⟩, -, X1, ⟨Lc1, hQ1, l1, y1, z1⟩, st1⟩ := X0.specialBack hx (y := (⟨"java/util/AbstractMap", "<init>", "()V"⟩ : MethodName)) rfl hown (mvT hZ (hw _ (List.mem_of_getElem? (i := 59) rfl))) (mvT hZ (hw _ (List.mem_of_getElem? (i := 60) rfl))) (mvT hZ (hw _ (List.mem_of_getElem? (i := 64) rfl))) (by decide) (backOf (W := 0) (rm8 l Z a0 hw [] self h0 n0 (by omega)  ) hZ (hw _ (List.mem_of_getElem? (i := 64) rfl)) (hw _ (List.mem_of_getElem? (i := 63) rfl)) (by decide) (by decide)) (g := (mkF m 1 #[.val (.ref self), .val (.int (16 : Int32)), .val (.float (1061158912 : UInt32))] [(.ref self)])) rfl (by rw [hml]; rfl) (Steps.refl _) (a := self) (argsL := []) (rest := []) (lenOf pd_0 rfl) rfl (by show 2 * 0 + _ ≤ _; exact Nat.le_of_eq rfl) (hb hby d13_1) (fun _ _ => ⟨rfl, e0, (by decide : 0 + 0 ≤ _), (by decide : 0 + 0 ≤ _)⟩)
  dsimp only [Pt.U, Pt.locs, Pt.cells, Pt.slots] at X1 l1 y1 z1 st1 hQ1
  subst l1 y1 z1
  obtain ⟨rfl, Nq1, hs1⟩ := hQ1
  have N1 := Fr.app N0 Nq1
  refine Comes.go st1 ?_
  show Comes p e below _ (T1.setTop (mkF m 4 #[.val (.ref self), .val (.int (16 : Int32)), .val (.float (1061158912 : UInt32))] []))
  refine Comes.st (fun t k => XS.iloadN X1.here hx rfl (hb hby d13_4) rfl k) ?_
  show Comes p e below _ (T1.setTop (mkF m 5 #[.val (.ref self), .val (.int (16 : Int32)), .val (.float (1061158912 : UInt32))] [(.int (16 : Int32))]))
  have hc5_2 : ¬ ((16 : Int32) < (0 : Int32)) := by decide
  refine Comes.st (fun t k => XS.ifYes X1.here hx rfl (pc0 := 5) (pc' := 35) rfl (hb hby d13_5) rfl ((if0 _ _).trans (flt hc5_2).2.1) (by decide) (by decide) (XS.iloadN X1.here hx rfl (hb hby d13_35) rfl (X1.ldcInt hx hown (mvT hZ (hw _ (List.mem_of_getElem? (i := 114) rfl))) (g := (mkF m 36 #[.val (.ref self), .val (.int (16 : Int32)), .val (.float (1061158912 : UInt32))] [(.int (16 : Int32))])) rfl (hb hby d13_36) _ k))) ?_
  show Comes p e below _ (T1.setTop (mkF m 38 #[.val (.ref self), .val (.int (16 : Int32)), .val (.float (1061158912 : UInt32))] [(.int (1073741824 : Int32)), (.int (16 : Int32))]))
  have hc38_3 : ¬ ((1073741824 : Int32) < (16 : Int32)) := by decide
  refine Comes.st (fun t k => XS.icmpYes X1.here hx rfl (pc0 := 38) (pc' := 44) rfl (hb hby d13_38) rfl (flt hc38_3).2.2.2 (by decide) (by decide) (XS.floadN X1.here hx rfl (hb hby d13_44) rfl k)) ?_
  show Comes p e below _ (T1.setTop (mkF m 45 #[.val (.ref self), .val (.int (16 : Int32)), .val (.float (1061158912 : UInt32))] [(.float (1061158912 : UInt32))]))
  refine Comes.st (fun t k => XS.fconst0 X1.here hx rfl (hb hby d13_45) (v := (0 : UInt32)) rfl k) ?_
  show Comes p e below _ (T1.setTop (mkF m 46 #[.val (.ref self), .val (.int (16 : Int32)), .val (.float (1061158912 : UInt32))] [(.float (0 : UInt32)), (.float (1061158912 : UInt32))]))
  refine Comes.st (fun t k => XS.fcmpS X1.here hx rfl (hb hby d13_46) (v := (1 : Int32)) rfl (by decide +kernel) k) ?_
  show Comes p e below _ (T1.setTop (mkF m 47 #[.val (.ref self), .val (.int (16 : Int32)), .val (.float (1061158912 : UInt32))] [(.int (1 : Int32))]))
  have hc47_4 : (0 : Int32) < (1 : Int32) := by decide
  refine Comes.st (fun t k => XS.ifNo X1.here hx rfl (hb hby d13_47) rfl ((if0 _ _).trans (tlt hc47_4).2.2.2) (XS.floadN X1.here hx rfl (hb hby d13_50) rfl k)) ?_
  show Comes p e below _ (T1.setTop (mkF m 51 #[.val (.ref self), .val (.int (16 : Int32)), .val (.float (1061158912 : UInt32))] [(.float (1061158912 : UInt32))]))
  obtain ⟨_, _, ⟨T5, L5, k5, n5⟩, -, X5, ⟨Lc5, hQ5, l5, y5, z5⟩, st5⟩ := Jvm.LawKit.callS X1 hx (y := (⟨"java/lang/Float", "isNaN", "(F)Z"⟩ : MethodName)) hown (mvT hZ (hw _ (List.mem_of_getElem? (i := 115) rfl))) (mvT hZ (hw _ (List.mem_of_getElem? (i := 116) rfl))) (mvT hZ (hw _ (List.mem_of_getElem? (i := 117) rfl))) (mvT hZ (hw _ (List.mem_of_getElem? (i := 118) rfl))) (by decide) (backOf (W := 0) (rm14 l Z a0 hw []  h0 n0 (by omega)  ) hZ (hw _ (List.mem_of_getElem? (i := 118) rfl)) (hw _ (List.mem_of_getElem? (i := 117) rfl)) (by decide) (by decide)) (g := (mkF m 51 #[.val (.ref self), .val (.int (16 : Int32)), .val (.float (1061158912 : UInt32))] [(.float (1061158912 : UInt32))])) rfl (by rw [hml]; rfl) (argsL := [(.float (1061158912 : UInt32))]) (rest := []) (lenOf pd_2 rfl) rfl (by show 2 * 0 + _ ≤ _; exact Nat.le_of_eq rfl) (hb hby d13_51) (fun _ _ => ⟨rfl, hs1, (by decide : 0 + 0 ≤ _), (by decide : 0 + 0 ≤ _)⟩)
  dsimp only [Pt.U, Pt.locs, Pt.cells, Pt.slots] at X5 l5 y5 z5 st5 hQ5
  subst l5 y5 z5
  obtain ⟨rfl, Nq5, hs5⟩ := hQ5
  have N5 := Fr.app N1 Nq5
  refine Comes.st st5 ?_
  show Comes p e below _ (T5.setTop (mkF m 54 #[.val (.ref self), .val (.int (16 : Int32)), .val (.float (1061158912 : UInt32))] [(.int (0 : Int32))]))
  have hc54_6 : (0 : Int32) = (0 : Int32) := by decide
  refine Comes.st (fun t k => XS.ifYes X5.here hx rfl (pc0 := 54) (pc' := 84) rfl (hb hby d13_54) rfl ((if0 _ _).trans (teq hc54_6).1) (by decide) (by decide) (XS.aloadN X5.here hx rfl (hb hby d13_84) rfl rfl (XS.floadN X5.here hx rfl (hb hby d13_85) rfl k))) ?_
  show Comes p e below _ (T5.setTop (mkF m 86 #[.val (.ref self), .val (.int (16 : Int32)), .val (.float (1061158912 : UInt32))] [(.float (1061158912 : UInt32)), (.ref self)]))
  obtain ⟨T7, h7, X7, e7, W7, st7⟩ := putF X5 hx hZ hown (host := "") (Or.inl (hw _ (List.mem_of_getElem? (i := 67) rfl))) Via.refl hs5 G1 G0 (Or.inr ⟨(hw _ (List.mem_of_getElem? (i := 68) rfl)), rfl, hnm⟩) (hw _ (List.mem_of_getElem? (i := 48) rfl)) (ty := .float) (by decide) rfl rfl (g := (mkF m 86 #[.val (.ref self), .val (.int (16 : Int32)), .val (.float (1061158912 : UInt32))] [(.float (1061158912 : UInt32)), (.ref self)])) rfl rfl (hb hby d13_86)
  have Fw7 := G1.same W7
  have z7 : h7.size = h0.size := W7.size
  have gn8 : n0 ≤ self := by omega
  have N7 := Fr.snoc X7 N5 gn8
  have K7 : Keep h0 h7 [self] := K0.wr W7 (Or.inl (List.mem_of_getElem? (i := 0) rfl))
  refine Comes.st st7 ?_
  show Comes p e below _ (T7.setTop (mkF m 89 #[.val (.ref self), .val (.int (16 : Int32)), .val (.float (1061158912 : UInt32))] []))
  refine Comes.st (fun t k => XS.aloadN X7.here hx rfl (hb hby d13_89) rfl rfl (XS.iloadN X7.here hx rfl (hb hby d13_90) rfl k)) ?_
  show Comes p e below _ (T7.setTop (mkF m 91 #[.val (.ref self), .val (.int (16 : Int32)), .val (.float (1061158912 : UInt32))] [(.int (16 : Int32)), (.ref self)]))
  obtain ⟨_, _, ⟨T9, L9, k9, n9⟩, -, X9, ⟨Lc9, hQ9, l9, y9, z9⟩, st9⟩ := Jvm.LawKit.callS X7 hx (y := (⟨"java/util/HashMap", "tableSizeFor", "(I)I"⟩ : MethodName)) hown (mvT hZ (hw _ (List.mem_of_getElem? (i := 119) rfl))) (mvT hZ (hw _ (List.mem_of_getElem? (i := 120) rfl))) (mvT hZ (hw _ (List.mem_of_getElem? (i := 57) rfl))) (mvT hZ (hw _ (List.mem_of_getElem? (i := 121) rfl))) (by decide) (backOf (W := 1) (rm15 l Z a0 hw []  h7 n0 (by omega)  ) hZ (hw _ (List.mem_of_getElem? (i := 121) rfl)) (hw _ (List.mem_of_getElem? (i := 57) rfl)) (by decide) (by decide)) (g := (mkF m 91 #[.val (.ref self), .val (.int (16 : Int32)), .val (.float (1061158912 : UInt32))] [(.int (16 : Int32)), (.ref self)])) rfl (by rw [hml]; rfl) (argsL := [(.int (16 : Int32))]) (rest := [(.ref self)]) (lenOf pd_1 rfl) rfl (by show 2 * 0 + _ ≤ _; exact Nat.le_of_eq rfl) (hb hby d13_91) (fun _ _ => ⟨rfl, e7, (by decide : 0 + 0 ≤ _), (by decide : 0 + 0 ≤ _)⟩)
  dsimp only [Pt.U, Pt.locs, Pt.cells, Pt.slots] at X9 l9 y9 z9 st9 hQ9
  subst l9 y9 z9
  obtain ⟨rfl, Nq9, hs9⟩ := hQ9
  have N9 := Fr.app N7 Nq9
  refine Comes.st st9 ?_
  show Comes p e below _ (T9.setTop (mkF m 94 #[.val (.ref self), .val (.int (16 : Int32)), .val (.float (1061158912 : UInt32))] [(.int (16 : Int32)), (.ref self)]))
  have F10 : Exa Z h7 self "java/util/LinkedHashMap" := (G0.wr W7)
  have F11 : Fld Z h7 self "java/util/HashMap" "threshold" "I" (.int (0 : Int32)) := (G4.other W7 (Or.inr (slot_ne (Or.inl (hw _ (List.mem_of_getElem? (i := 128) rfl))) (Or.inr (hw _ (List.mem_of_getElem? (i := 68) rfl))) (by decide) (t := .int) (t' := .float) (by decide) (by decide))))
  obtain ⟨T12, h12, X12, e12, W12, st12⟩ := putF X9 hx hZ hown (host := "") (Or.inl (hw _ (List.mem_of_getElem? (i := 127) rfl))) Via.refl hs9 F11 F10 (Or.inl (hw _ (List.mem_of_getElem? (i := 128) rfl))) (hw _ (List.mem_of_getElem? (i := 48) rfl)) (ty := .int) (by decide) rfl rfl (g := (mkF m 94 #[.val (.ref self), .val (.int (16 : Int32)), .val (.float (1061158912 : UInt32))] [(.int (16 : Int32)), (.ref self)])) rfl rfl (hb hby d13_94)
  have Fw12 := F11.same W12
  have z12 : h12.size = h7.size := W12.size
  have N12 := Fr.snoc X12 N9 gn8
  have K12 : Keep h0 h12 [self] := K7.wr W12 (Or.inl (List.mem_of_getElem? (i := 0) rfl))
  refine Comes.st st12 ?_
  show Comes p e below _ (T12.setTop (mkF m 97 #[.val (.ref self), .val (.int (16 : Int32)), .val (.float (1061158912 : UInt32))] []))
  have F13 : Exa Z h12 self "java/util/LinkedHashMap" := (F10.wr W12)
  have F14 : Fld Z h12 self "java/util/HashMap" "loadFactor" "F" (.float (1061158912 : UInt32)) := (Fw7.other W12 (Or.inr (slot_ne (Or.inr (hw _ (List.mem_of_getElem? (i := 68) rfl))) (Or.inl (hw _ (List.mem_of_getElem? (i := 128) rfl))) (by decide) (t := .float) (t' := .int) (by decide) (by decide))))
  have F15 : Fld Z h12 self "java/util/LinkedHashMap" "putMode" "I" (.int (0 : Int32)) := ((G2.other W7 (Or.inr (slot_ne (Or.inl (hw _ (List.mem_of_getElem? (i := 70) rfl))) (Or.inr (hw _ (List.mem_of_getElem? (i := 68) rfl))) (by decide) (t := .int) (t' := .float) (by decide) (by decide)))).other W12 (Or.inr (slot_ne (Or.inl (hw _ (List.mem_of_getElem? (i := 70) rfl))) (Or.inl (hw _ (List.mem_of_getElem? (i := 128) rfl))) (by decide) (t := .int) (t' := .int) (by decide) (by decide))))
  have F16 : Fld Z h12 self "java/util/LinkedHashMap" "accessOrder" "Z" (.int (0 : Int32)) := ((G3.other W7 (Or.inr (slot_ne (Or.inr (hw _ (List.mem_of_getElem? (i := 72) rfl))) (Or.inr (hw _ (List.mem_of_getElem? (i := 68) rfl))) (by decide) (t := .boolean) (t' := .float) (by decide) (by decide)))).other W12 (Or.inr (slot_ne (Or.inr (hw _ (List.mem_of_getElem? (i := 72) rfl))) (Or.inl (hw _ (List.mem_of_getElem? (i := 128) rfl))) (by decide) (t := .boolean) (t' := .int) (by decide) (by decide))))
  exact Comes.ret0 X12 hx Bd.returns hlk (hb hby d13_97) e12 ⟨rfl, N12, K12, F13, F14, F15, F16, Fw12⟩ (by decide) (by decide)
def Q_rm12 (Z : State) (self : Nat) (h0 : Heap) (n0 : Nat) (v : Option Value) (h : Heap) (L : List Loc) : Prop := (v = none) ∧ (Fr n0 L) ∧ (Keep h0 h [self]) ∧ (Exa Z h self "java/util/LinkedHashMap")
set_option maxRecDepth 65536 in
set_option maxHeartbeats 40000000 in
theorem rm12 (l : Launch) (Z : State) (a0 : Array Value) (hw : ∀ d ∈ tables_1, d.before a0 Z = true) (ws : List Jvm.Cond) (self : Nat) (h0 : Heap) (n0 : Nat) (Z0 : n0 ≤ h0.size) (G0 : Exa Z h0 self "java/util/LinkedHashMap") (G1 : Fld Z h0 self "java/util/HashMap" "loadFactor" "F" (.float 0)) (G2 : Fld Z h0 self "java/util/LinkedHashMap" "putMode" "I" (.int (0 : Int32))) (G3 : Fld Z h0 self "java/util/LinkedHashMap" "accessOrder" "Z" (.int (0 : Int32))) (G4 : Fld Z h0 self "java/util/HashMap" "threshold" "I" (.int (0 : Int32))) (G5 : n0 ≤ self) :
    MetFree l (⟨"java/util/LinkedHashMap", "<init>", "(IF)V"⟩ : MethodName) (head1 (Jvm.Cond.code (⟨"java/util/LinkedHashMap", "<init>", "(IF)V"⟩ : MethodName) jdk_94_method_14_code 3 none :: ws) ({ frames := 3, cells := 0, slots := 0, locals := 42 } : Room)) (fun a U => a = #[(.ref self), (.int (16 : Int32)), (.float (1061158912 : UInt32))] ∧ Z.Warmed39 U.vm ∧ U.heap = h0) (fun _ _ _ _ _ => True) (fun _ U o U' => ∃ v L, o = .returned v ∧ Q_rm12 Z self h0 n0 v U'.heap L ∧ FrameEnd U o U' L ({ frames := 3, cells := 0, slots := 0, locals := 42 } : Room).cells ({ frames := 3, cells := 0, slots := 0, locals := 42 } : Room).slots) := by
  refine MetFree.of_bodySF (plainFor_of_name pn_12) hisR ?_
  intro p e s m args below meth c s₁ Bd hml0 hP hK
  obtain ⟨rfl, hZ, hh⟩ := hP
  have hx := Bd.exec
  have hby := Bd.bytes
  have hml : c.maxLocals = 3 := hml0
  have hown : s.vm.findClass "java/util/LinkedHashMap" = some m.cls := findClass_of_methodNamed Bd.named
  have hnm := (name_of_methodNamed Bd.named Bd.method).1
  have hlk : meth.locks = false := Bd.notSynchronized
  have X0 : Stand p l e ({ frames := 3, cells := 0, slots := 0, locals := 42 } : Room) s m #[(.ref self), (.int (16 : Int32)), (.float (1061158912 : UInt32))] below meth c s₁ [] 0 0 := Stand.of_body Bd
  have e0 : s₁.heap = h0 := by rw [← hh, Bd.state]; rfl
  have N0 := Fr.nil n0
  have K0 := Keep.refl h0 [self]
  refine Comes.out (Q := Q_rm12 Z self h0 n0) (kc := ({ frames := 3, cells := 0, slots := 0, locals := 42 } : Room).cells) (ks := ({ frames := 3, cells := 0, slots := 0, locals := 42 } : Room).slots) ?_
  refine Comes.cast (ef_rm12 m self) ?_
  have lt_self : self < h0.size := G0.lt
  show Comes p e below _ (s₁.setTop (mkF m 0 #[.val (.ref self), .val (.int (16 : Int32)), .val (.float (1061158912 : UInt32))] []))
  refine Comes.st (fun t k => XS.aloadN X0.here hx rfl (hb hby d12_0) rfl rfl (XS.iloadN X0.here hx rfl (hb hby d12_1) rfl (XS.floadN X0.here hx rfl (hb hby d12_2) rfl k))) ?_
  show Comes p e below _ (s₁.setTop (mkF m 3 #[.val (.ref self), .val (.int (16 : Int32)), .val (.float (1061158912 : UInt32))] [(.float (1061158912 : UInt32)), (.int (16 : Int32)), (.ref self)]))
  obtain ⟨_, _, ⟨T1, L1, k1, n1⟩, -, X1, ⟨Lc1, hQ1, l1, y1, z1⟩, st1⟩ := X0.specialBack hx (y := (⟨"java/util/HashMap", "<init>", "(IF)V"⟩ : MethodName)) rfl hown (mvT hZ (hw _ (List.mem_of_getElem? (i := 110) rfl))) (mvT hZ (hw _ (List.mem_of_getElem? (i := 111) rfl))) (mvT hZ (hw _ (List.mem_of_getElem? (i := 113) rfl))) (by decide) (backOf (W := 0) (rm13 l Z a0 hw [] self h0 n0 (by omega)  G0 G1 G2 G3 G4 (by omega)) hZ (hw _ (List.mem_of_getElem? (i := 113) rfl)) (hw _ (List.mem_of_getElem? (i := 57) rfl)) (by decide) (by decide)) (g := (mkF m 3 #[.val (.ref self), .val (.int (16 : Int32)), .val (.float (1061158912 : UInt32))] [(.float (1061158912 : UInt32)), (.int (16 : Int32)), (.ref self)])) rfl (by rw [hml]; rfl) (Steps.refl _) (a := self) (argsL := [(.int (16 : Int32)), (.float (1061158912 : UInt32))]) (rest := []) (lenOf pd_3 rfl) rfl (by show 2 * 0 + _ ≤ _; exact Nat.le_of_eq rfl) (hb hby d12_3) (fun _ _ => ⟨rfl, e0, (by decide : 0 + 0 ≤ _), (by decide : 0 + 0 ≤ _)⟩)
  dsimp only [Pt.U, Pt.locs, Pt.cells, Pt.slots] at X1 l1 y1 z1 st1 hQ1
  subst l1 y1 z1
  obtain ⟨rfl, Nq1, Kq1, P1_0, P1_1, P1_2, P1_3, P1_4⟩ := hQ1
  have N1 := Fr.app N0 Nq1
  have z1k : h0.size ≤ T1.heap.size := Kq1.1
  have K1 : Keep h0 T1.heap [self] := K0.trans Kq1 (allS (Or.inl (List.mem_of_getElem? (i := 0) rfl)) all0)
  refine Comes.go st1 ?_
  show Comes p e below _ (T1.setTop (mkF m 6 #[.val (.ref self), .val (.int (16 : Int32)), .val (.float (1061158912 : UInt32))] []))
  refine Comes.st (fun t k => XS.aloadN X1.here hx rfl (hb hby d12_6) rfl rfl (XS.iconst X1.here hx rfl (hb hby d12_7) k)) ?_
  show Comes p e below _ (T1.setTop (mkF m 8 #[.val (.ref self), .val (.int (16 : Int32)), .val (.float (1061158912 : UInt32))] [(.int (0 : Int32)), (.ref self)]))
  obtain ⟨T2, h2, X2, e2, W2, st2⟩ := putF X1 hx hZ hown (host := "") (Or.inl (hw _ (List.mem_of_getElem? (i := 69) rfl))) Via.refl rfl P1_2 P1_0 (Or.inl (hw _ (List.mem_of_getElem? (i := 70) rfl))) (hw _ (List.mem_of_getElem? (i := 48) rfl)) (ty := .int) (by decide) rfl rfl (g := (mkF m 8 #[.val (.ref self), .val (.int (16 : Int32)), .val (.float (1061158912 : UInt32))] [(.int (0 : Int32)), (.ref self)])) rfl rfl (hb hby d12_8)
  have Fw2 := P1_2.same W2
  have z2 : h2.size = T1.heap.size := W2.size
  have gn3 : n0 ≤ self := by omega
  have N2 := Fr.snoc X2 N1 gn3
  have K2 : Keep h0 h2 [self] := K1.wr W2 (Or.inl (List.mem_of_getElem? (i := 0) rfl))
  refine Comes.st st2 ?_
  show Comes p e below _ (T2.setTop (mkF m 11 #[.val (.ref self), .val (.int (16 : Int32)), .val (.float (1061158912 : UInt32))] []))
  refine Comes.st (fun t k => XS.aloadN X2.here hx rfl (hb hby d12_11) rfl rfl (XS.iconst X2.here hx rfl (hb hby d12_12) k)) ?_
  show Comes p e below _ (T2.setTop (mkF m 13 #[.val (.ref self), .val (.int (16 : Int32)), .val (.float (1061158912 : UInt32))] [(.int (0 : Int32)), (.ref self)]))
  have F4 : Exa Z h2 self "java/util/LinkedHashMap" := (P1_0.wr W2)
  have F5 : Fld Z h2 self "java/util/LinkedHashMap" "accessOrder" "Z" (.int (0 : Int32)) := (P1_3.other W2 (Or.inr (slot_ne (Or.inr (hw _ (List.mem_of_getElem? (i := 72) rfl))) (Or.inl (hw _ (List.mem_of_getElem? (i := 70) rfl))) (by decide) (t := .boolean) (t' := .int) (by decide) (by decide))))
  obtain ⟨T6, h6, X6, e6, W6, st6⟩ := putFN X2 hx hZ hown (hw _ (List.mem_of_getElem? (i := 71) rfl)) Via.refl e2 F5 F4 (Or.inr ⟨(hw _ (List.mem_of_getElem? (i := 72) rfl)), rfl, hnm⟩) (hw _ (List.mem_of_getElem? (i := 48) rfl)) (ty := .boolean) (v' := (.int (nar .boolean (0 : Int32)))) (by decide) rfl (fits_nar_bool _) (g := (mkF m 13 #[.val (.ref self), .val (.int (16 : Int32)), .val (.float (1061158912 : UInt32))] [(.int (0 : Int32)), (.ref self)])) rfl rfl (hb hby d12_13)
  have Fw6 := F5.same W6
  have z6 : h6.size = h2.size := W6.size
  have N6 := Fr.snoc X6 N2 gn3
  have K6 : Keep h0 h6 [self] := K2.wr W6 (Or.inl (List.mem_of_getElem? (i := 0) rfl))
  refine Comes.st st6 ?_
  show Comes p e below _ (T6.setTop (mkF m 16 #[.val (.ref self), .val (.int (16 : Int32)), .val (.float (1061158912 : UInt32))] []))
  have F7 : Exa Z h6 self "java/util/LinkedHashMap" := (F4.wr W6)
  exact Comes.ret0 X6 hx Bd.returns hlk (hb hby d12_16) e6 ⟨rfl, N6, K6, F7⟩ (by decide) (by decide)
def Q_rm10 (Z : State) (self : Nat) (h0 : Heap) (n0 : Nat) (v : Option Value) (h : Heap) (L : List Loc) : Prop := (v = none) ∧ (Fr n0 L) ∧ (Keep h0 h [self]) ∧ (Exa Z h self "java/util/LinkedHashSet")
set_option maxRecDepth 65536 in
set_option maxHeartbeats 40000000 in
theorem rm10 (l : Launch) (Z : State) (a0 : Array Value) (hw : ∀ d ∈ tables_1, d.before a0 Z = true) (ws : List Jvm.Cond) (self : Nat) (h0 : Heap) (n0 : Nat) (Z0 : n0 ≤ h0.size) (G0 : Exa Z h0 self "java/util/LinkedHashSet") (G1 : Fld Z h0 self "java/util/HashSet" "map" "Ljava/util/HashMap;" .null) (G2 : n0 ≤ self) :
    MetFree l (⟨"java/util/HashSet", "<init>", "(IFZ)V"⟩ : MethodName) (head1 (Jvm.Cond.code (⟨"java/util/HashSet", "<init>", "(IFZ)V"⟩ : MethodName) jdk_93_method_5_code 4 none :: ws) ({ frames := 4, cells := 1, slots := 12, locals := 58 } : Room)) (fun a U => a = #[(.ref self), (.int (16 : Int32)), (.float (1061158912 : UInt32)), (.int (1 : Int32))] ∧ Z.Warmed39 U.vm ∧ U.heap = h0) (fun _ _ _ _ _ => True) (fun _ U o U' => ∃ v L, o = .returned v ∧ Q_rm10 Z self h0 n0 v U'.heap L ∧ FrameEnd U o U' L ({ frames := 4, cells := 1, slots := 12, locals := 58 } : Room).cells ({ frames := 4, cells := 1, slots := 12, locals := 58 } : Room).slots) := by
  refine MetFree.of_bodySF (plainFor_of_name pn_10) hisR ?_
  intro p e s m args below meth c s₁ Bd hml0 hP hK
  obtain ⟨rfl, hZ, hh⟩ := hP
  have hx := Bd.exec
  have hby := Bd.bytes
  have hml : c.maxLocals = 4 := hml0
  have hown : s.vm.findClass "java/util/HashSet" = some m.cls := findClass_of_methodNamed Bd.named
  have hnm := (name_of_methodNamed Bd.named Bd.method).1
  have hlk : meth.locks = false := Bd.notSynchronized
  have X0 : Stand p l e ({ frames := 4, cells := 1, slots := 12, locals := 58 } : Room) s m #[(.ref self), (.int (16 : Int32)), (.float (1061158912 : UInt32)), (.int (1 : Int32))] below meth c s₁ [] 0 0 := Stand.of_body Bd
  have e0 : s₁.heap = h0 := by rw [← hh, Bd.state]; rfl
  have N0 := Fr.nil n0
  have K0 := Keep.refl h0 [self]
  refine Comes.out (Q := Q_rm10 Z self h0 n0) (kc := ({ frames := 4, cells := 1, slots := 12, locals := 58 } : Room).cells) (ks := ({ frames := 4, cells := 1, slots := 12, locals := 58 } : Room).slots) ?_
  refine Comes.cast (ef_rm10 m self) ?_
  have lt_self : self < h0.size := G0.lt
  show Comes p e below _ (s₁.setTop (mkF m 0 #[.val (.ref self), .val (.int (16 : Int32)), .val (.float (1061158912 : UInt32)), .val (.int (1 : Int32))] []))
  refine Comes.st (fun t k => XS.aloadN X0.here hx rfl (hb hby d10_0) rfl rfl k) ?_
  show Comes p e below _ (s₁.setTop (mkF m 1 #[.val (.ref self), .val (.int (16 : Int32)), .val (.float (1061158912 : UInt32)), .val (.int (1 : Int32))] [(.ref self)]))
  obtain ⟨_, _, ⟨T1, L1, k1, n1⟩, -, X1, ⟨Lc1, hQ1, l1, y1, z1⟩, st1⟩ := X0.specialBack hx (y := (⟨"java/util/AbstractSet", "<init>", "()V"⟩ : MethodName)) rfl hown (mvT hZ (hw _ (List.mem_of_getElem? (i := 97) rfl))) (mvT hZ (hw _ (List.mem_of_getElem? (i := 98) rfl))) (mvT hZ (hw _ (List.mem_of_getElem? (i := 102) rfl))) (by decide) (backOf (W := 0) (rm11 l Z a0 hw [] self h0 n0 (by omega)  ) hZ (hw _ (List.mem_of_getElem? (i := 102) rfl)) (hw _ (List.mem_of_getElem? (i := 101) rfl)) (by decide) (by decide)) (g := (mkF m 1 #[.val (.ref self), .val (.int (16 : Int32)), .val (.float (1061158912 : UInt32)), .val (.int (1 : Int32))] [(.ref self)])) rfl (by rw [hml]; rfl) (Steps.refl _) (a := self) (argsL := []) (rest := []) (lenOf pd_0 rfl) rfl (by show 2 * 0 + _ ≤ _; exact Nat.le_of_eq rfl) (hb hby d10_1) (fun _ _ => ⟨rfl, e0, (by decide : 0 + 0 ≤ _), (by decide : 0 + 0 ≤ _)⟩)
  dsimp only [Pt.U, Pt.locs, Pt.cells, Pt.slots] at X1 l1 y1 z1 st1 hQ1
  subst l1 y1 z1
  obtain ⟨rfl, Nq1, hs1⟩ := hQ1
  have N1 := Fr.app N0 Nq1
  refine Comes.go st1 ?_
  show Comes p e below _ (T1.setTop (mkF m 4 #[.val (.ref self), .val (.int (16 : Int32)), .val (.float (1061158912 : UInt32)), .val (.int (1 : Int32))] []))
  refine Comes.st (fun t k => XS.aloadN X1.here hx rfl (hb hby d10_4) rfl rfl k) ?_
  show Comes p e below _ (T1.setTop (mkF m 5 #[.val (.ref self), .val (.int (16 : Int32)), .val (.float (1061158912 : UInt32)), .val (.int (1 : Int32))] [(.ref self)]))
  obtain ⟨T2, h2, X2, e2, E2, A2, D2, -, st2⟩ := newO X1 hx hZ hown (hw _ (List.mem_of_getElem? (i := 105) rfl)) (hw _ (List.mem_of_getElem? (i := 48) rfl)) (hw _ (List.mem_of_getElem? (i := 49) rfl)) hs1 (g := (mkF m 5 #[.val (.ref self), .val (.int (16 : Int32)), .val (.float (1061158912 : UInt32)), .val (.int (1 : Int32))] [(.ref self)])) rfl (hb hby d10_5) (by decide) (by decide)
  obtain ⟨b2, g2⟩ : ∃ z, z = h0.size := ⟨_, rfl⟩
  rw [← g2] at A2 D2 st2
  have z2 : h0.size ≤ h2.size := E2.1
  have lt2 : b2 < h2.size := A2.lt
  have F3 : Fld Z h2 b2 "java/util/HashMap" "loadFactor" "F" (.float 0) := D2 (Or.inr (hw _ (List.mem_of_getElem? (i := 68) rfl))) (ty := .float) (by decide)
  have F4 : Fld Z h2 b2 "java/util/LinkedHashMap" "putMode" "I" (.int (0 : Int32)) := D2 (Or.inl (hw _ (List.mem_of_getElem? (i := 70) rfl))) (ty := .int) (by decide)
  have F5 : Fld Z h2 b2 "java/util/LinkedHashMap" "accessOrder" "Z" (.int (0 : Int32)) := D2 (Or.inr (hw _ (List.mem_of_getElem? (i := 72) rfl))) (ty := .boolean) (by decide)
  have F6 : Fld Z h2 b2 "java/util/HashMap" "threshold" "I" (.int (0 : Int32)) := D2 (Or.inl (hw _ (List.mem_of_getElem? (i := 128) rfl))) (ty := .int) (by decide)
  have K2 : Keep h0 h2 [self] := K0.ext E2
  refine Comes.st st2 ?_
  show Comes p e below _ (T2.setTop (mkF m 8 #[.val (.ref self), .val (.int (16 : Int32)), .val (.float (1061158912 : UInt32)), .val (.int (1 : Int32))] [(.ref b2), (.ref self)]))
  refine Comes.st (fun t k => XS.dup X2.here hx rfl (hb hby d10_8) rfl rfl (XS.iloadN X2.here hx rfl (hb hby d10_9) rfl (XS.floadN X2.here hx rfl (hb hby d10_10) rfl k))) ?_
  show Comes p e below _ (T2.setTop (mkF m 11 #[.val (.ref self), .val (.int (16 : Int32)), .val (.float (1061158912 : UInt32)), .val (.int (1 : Int32))] [(.float (1061158912 : UInt32)), (.int (16 : Int32)), (.ref b2), (.ref b2), (.ref self)]))
  obtain ⟨_, _, ⟨T7, L7, k7, n7⟩, -, X7, ⟨Lc7, hQ7, l7, y7, z7⟩, st7⟩ := X2.specialBack hx (y := (⟨"java/util/LinkedHashMap", "<init>", "(IF)V"⟩ : MethodName)) rfl hown (mvT hZ (hw _ (List.mem_of_getElem? (i := 106) rfl))) (mvT hZ (hw _ (List.mem_of_getElem? (i := 107) rfl))) (mvT hZ (hw _ (List.mem_of_getElem? (i := 109) rfl))) (by decide) (backOf (W := 2) (rm12 l Z a0 hw [] b2 h2 n0 (by omega)  A2 F3 F4 F5 F6 (by omega)) hZ (hw _ (List.mem_of_getElem? (i := 109) rfl)) (hw _ (List.mem_of_getElem? (i := 49) rfl)) (by decide) (by decide)) (g := (mkF m 11 #[.val (.ref self), .val (.int (16 : Int32)), .val (.float (1061158912 : UInt32)), .val (.int (1 : Int32))] [(.float (1061158912 : UInt32)), (.int (16 : Int32)), (.ref b2), (.ref b2), (.ref self)])) rfl (by rw [hml]; rfl) (Steps.refl _) (a := b2) (argsL := [(.int (16 : Int32)), (.float (1061158912 : UInt32))]) (rest := [(.ref b2), (.ref self)]) (lenOf pd_3 rfl) rfl (by show 2 * 0 + _ ≤ _; exact Nat.le_of_eq rfl) (hb hby d10_11) (fun _ _ => ⟨rfl, e2, (by decide : 1 + 0 ≤ _), (by decide : 12 + 0 ≤ _)⟩)
  dsimp only [Pt.U, Pt.locs, Pt.cells, Pt.slots] at X7 l7 y7 z7 st7 hQ7
  subst l7 y7 z7
  obtain ⟨rfl, Nq7, Kq7, P7_0⟩ := hQ7
  have N7 := Fr.app N1 Nq7
  have z7k : h2.size ≤ T7.heap.size := Kq7.1
  have gz8 : h0.size ≤ b2 := by omega
  have K7 : Keep h0 T7.heap [self] := K2.trans Kq7 (allS (Or.inr gz8) all0)
  refine Comes.go st7 ?_
  have lt_9 : b2 < T7.heap.size := P7_0.lt
  show Comes p e below _ (T7.setTop (mkF m 14 #[.val (.ref self), .val (.int (16 : Int32)), .val (.float (1061158912 : UInt32)), .val (.int (1 : Int32))] [(.ref b2), (.ref self)]))
  have F10 : Exa Z T7.heap self "java/util/LinkedHashSet" := ((G0.ext E2).keep Kq7)
  have ne11 : self ≠ b2 := by omega
  have F12 : Fld Z T7.heap self "java/util/HashSet" "map" "Ljava/util/HashMap;" .null := ((G1.ext E2).keep Kq7 (ninS ne11 nin0))
  obtain ⟨T13, h13, X13, e13, W13, st13⟩ := putF X7 hx hZ hown (host := "") (Or.inl (hw _ (List.mem_of_getElem? (i := 129) rfl))) Via.refl rfl F12 F10 (Or.inl (hw _ (List.mem_of_getElem? (i := 130) rfl))) (hw _ (List.mem_of_getElem? (i := 85) rfl)) (ty := (.object "java/util/HashMap")) (by decide) rfl rfl (g := (mkF m 14 #[.val (.ref self), .val (.int (16 : Int32)), .val (.float (1061158912 : UInt32)), .val (.int (1 : Int32))] [(.ref b2), (.ref self)])) rfl rfl (hb hby d10_14)
  have Fw13 := F12.same W13
  have z13 : h13.size = T7.heap.size := W13.size
  have gn14 : n0 ≤ self := by omega
  have N13 := Fr.snoc X13 N7 gn14
  have K13 : Keep h0 h13 [self] := K7.wr W13 (Or.inl (List.mem_of_getElem? (i := 0) rfl))
  refine Comes.st st13 ?_
  show Comes p e below _ (T13.setTop (mkF m 17 #[.val (.ref self), .val (.int (16 : Int32)), .val (.float (1061158912 : UInt32)), .val (.int (1 : Int32))] []))
  have F15 : Exa Z h13 self "java/util/LinkedHashSet" := (F10.wr W13)
  exact Comes.ret0 X13 hx Bd.returns hlk (hb hby d10_17) e13 ⟨rfl, N13, K13, F15⟩ (by decide) (by decide)
def Q_rm9 (Z : State) (self : Nat) (h0 : Heap) (n0 : Nat) (v : Option Value) (h : Heap) (L : List Loc) : Prop := (v = none) ∧ (Fr n0 L) ∧ (Keep h0 h [self]) ∧ (Exa Z h self "java/util/LinkedHashSet")
set_option maxRecDepth 65536 in
set_option maxHeartbeats 40000000 in
theorem rm9 (l : Launch) (Z : State) (a0 : Array Value) (hw : ∀ d ∈ tables_1, d.before a0 Z = true) (ws : List Jvm.Cond) (self : Nat) (h0 : Heap) (n0 : Nat) (Z0 : n0 ≤ h0.size) (G0 : Exa Z h0 self "java/util/LinkedHashSet") (G1 : Fld Z h0 self "java/util/HashSet" "map" "Ljava/util/HashMap;" .null) (G2 : n0 ≤ self) :
    MetFree l (⟨"java/util/LinkedHashSet", "<init>", "()V"⟩ : MethodName) (head1 (Jvm.Cond.code (⟨"java/util/LinkedHashSet", "<init>", "()V"⟩ : MethodName) jdk_2620_method_3_code 1 none :: ws) ({ frames := 5, cells := 1, slots := 12, locals := 73 } : Room)) (fun a U => a = #[(.ref self)] ∧ Z.Warmed39 U.vm ∧ U.heap = h0) (fun _ _ _ _ _ => True) (fun _ U o U' => ∃ v L, o = .returned v ∧ Q_rm9 Z self h0 n0 v U'.heap L ∧ FrameEnd U o U' L ({ frames := 5, cells := 1, slots := 12, locals := 73 } : Room).cells ({ frames := 5, cells := 1, slots := 12, locals := 73 } : Room).slots) := by
  refine MetFree.of_bodySF (plainFor_of_name pn_9) hisR ?_
  intro p e s m args below meth c s₁ Bd hml0 hP hK
  obtain ⟨rfl, hZ, hh⟩ := hP
  have hx := Bd.exec
  have hby := Bd.bytes
  have hml : c.maxLocals = 1 := hml0
  have hown : s.vm.findClass "java/util/LinkedHashSet" = some m.cls := findClass_of_methodNamed Bd.named
  have hnm := (name_of_methodNamed Bd.named Bd.method).1
  have hlk : meth.locks = false := Bd.notSynchronized
  have X0 : Stand p l e ({ frames := 5, cells := 1, slots := 12, locals := 73 } : Room) s m #[(.ref self)] below meth c s₁ [] 0 0 := Stand.of_body Bd
  have e0 : s₁.heap = h0 := by rw [← hh, Bd.state]; rfl
  have N0 := Fr.nil n0
  have K0 := Keep.refl h0 [self]
  refine Comes.out (Q := Q_rm9 Z self h0 n0) (kc := ({ frames := 5, cells := 1, slots := 12, locals := 73 } : Room).cells) (ks := ({ frames := 5, cells := 1, slots := 12, locals := 73 } : Room).slots) ?_
  refine Comes.cast (ef_rm9 m self) ?_
  have lt_self : self < h0.size := G0.lt
  show Comes p e below _ (s₁.setTop (mkF m 0 #[.val (.ref self)] []))
  refine Comes.st (fun t k => XS.aloadN X0.here hx rfl (hb hby d9_0) rfl rfl (XS.bipush X0.here hx rfl (hb hby d9_1) (X0.ldcFloatC hx hown (mvT hZ (hw _ (List.mem_of_getElem? (i := 90) rfl))) (g := (mkF m 3 #[.val (.ref self)] [(.int (16 : Int32)), (.ref self)])) rfl (hb hby d9_3) _ (XS.iconst X0.here hx rfl (hb hby d9_5) k)))) ?_
  show Comes p e below _ (s₁.setTop (mkF m 6 #[.val (.ref self)] [(.int (1 : Int32)), (.float (1061158912 : UInt32)), (.int (16 : Int32)), (.ref self)]))
  obtain ⟨_, _, ⟨T1, L1, k1, n1⟩, -, X1, ⟨Lc1, hQ1, l1, y1, z1⟩, st1⟩ := X0.specialBack hx (y := (⟨"java/util/HashSet", "<init>", "(IFZ)V"⟩ : MethodName)) rfl hown (mvT hZ (hw _ (List.mem_of_getElem? (i := 91) rfl))) (mvT hZ (hw _ (List.mem_of_getElem? (i := 92) rfl))) (mvT hZ (hw _ (List.mem_of_getElem? (i := 96) rfl))) (by decide) (backOf (W := 0) (rm10 l Z a0 hw [] self h0 n0 (by omega)  G0 G1 (by omega)) hZ (hw _ (List.mem_of_getElem? (i := 96) rfl)) (hw _ (List.mem_of_getElem? (i := 95) rfl)) (by decide) (by decide)) (g := (mkF m 6 #[.val (.ref self)] [(.int (1 : Int32)), (.float (1061158912 : UInt32)), (.int (16 : Int32)), (.ref self)])) rfl (by rw [hml]; rfl) (Steps.refl _) (a := self) (argsL := [(.int (16 : Int32)), (.float (1061158912 : UInt32)), (.int (1 : Int32))]) (rest := []) (lenOf pd_4 rfl) rfl (by show 2 * 0 + _ ≤ _; exact Nat.le_of_eq rfl) (hb hby d9_6) (fun _ _ => ⟨rfl, e0, (by decide : 0 + 1 ≤ _), (by decide : 0 + 12 ≤ _)⟩)
  dsimp only [Pt.U, Pt.locs, Pt.cells, Pt.slots] at X1 l1 y1 z1 st1 hQ1
  subst l1 y1 z1
  obtain ⟨rfl, Nq1, Kq1, P1_0⟩ := hQ1
  have N1 := Fr.app N0 Nq1
  have z1k : h0.size ≤ T1.heap.size := Kq1.1
  have K1 : Keep h0 T1.heap [self] := K0.trans Kq1 (allS (Or.inl (List.mem_of_getElem? (i := 0) rfl)) all0)
  refine Comes.go st1 ?_
  show Comes p e below _ (T1.setTop (mkF m 9 #[.val (.ref self)] []))
  exact Comes.ret0 X1 hx Bd.returns hlk (hb hby d9_9) rfl ⟨rfl, N1, K1, P1_0⟩ (by decide) (by decide)
def Q_rm17 (Z : State) (self : Nat) (h0 : Heap) (n0 : Nat) (v : Option Value) (h : Heap) (L : List Loc) : Prop := (v = none) ∧ (Fr n0 L) ∧ (Keep h0 h [self]) ∧ (Exa Z h self "java/util/HashSet")
set_option maxRecDepth 65536 in
set_option maxHeartbeats 40000000 in
theorem rm17 (l : Launch) (Z : State) (a0 : Array Value) (hw : ∀ d ∈ tables_1, d.before a0 Z = true) (ws : List Jvm.Cond) (self : Nat) (h0 : Heap) (n0 : Nat) (Z0 : n0 ≤ h0.size) (G0 : Exa Z h0 self "java/util/HashSet") (G1 : Fld Z h0 self "java/util/HashSet" "map" "Ljava/util/HashMap;" .null) (G2 : n0 ≤ self) :
    MetFree l (⟨"java/util/HashSet", "<init>", "()V"⟩ : MethodName) (head1 (Jvm.Cond.code (⟨"java/util/HashSet", "<init>", "()V"⟩ : MethodName) jdk_93_method_1_code 1 none :: ws) ({ frames := 3, cells := 1, slots := 8, locals := 38 } : Room)) (fun a U => a = #[(.ref self)] ∧ Z.Warmed39 U.vm ∧ U.heap = h0) (fun _ _ _ _ _ => True) (fun _ U o U' => ∃ v L, o = .returned v ∧ Q_rm17 Z self h0 n0 v U'.heap L ∧ FrameEnd U o U' L ({ frames := 3, cells := 1, slots := 8, locals := 38 } : Room).cells ({ frames := 3, cells := 1, slots := 8, locals := 38 } : Room).slots) := by
  refine MetFree.of_bodySF (plainFor_of_name pn_17) hisR ?_
  intro p e s m args below meth c s₁ Bd hml0 hP hK
  obtain ⟨rfl, hZ, hh⟩ := hP
  have hx := Bd.exec
  have hby := Bd.bytes
  have hml : c.maxLocals = 1 := hml0
  have hown : s.vm.findClass "java/util/HashSet" = some m.cls := findClass_of_methodNamed Bd.named
  have hnm := (name_of_methodNamed Bd.named Bd.method).1
  have hlk : meth.locks = false := Bd.notSynchronized
  have X0 : Stand p l e ({ frames := 3, cells := 1, slots := 8, locals := 38 } : Room) s m #[(.ref self)] below meth c s₁ [] 0 0 := Stand.of_body Bd
  have e0 : s₁.heap = h0 := by rw [← hh, Bd.state]; rfl
  have N0 := Fr.nil n0
  have K0 := Keep.refl h0 [self]
  refine Comes.out (Q := Q_rm17 Z self h0 n0) (kc := ({ frames := 3, cells := 1, slots := 8, locals := 38 } : Room).cells) (ks := ({ frames := 3, cells := 1, slots := 8, locals := 38 } : Room).slots) ?_
  refine Comes.cast (ef_rm17 m self) ?_
  have lt_self : self < h0.size := G0.lt
  show Comes p e below _ (s₁.setTop (mkF m 0 #[.val (.ref self)] []))
  refine Comes.st (fun t k => XS.aloadN X0.here hx rfl (hb hby d17_0) rfl rfl k) ?_
  show Comes p e below _ (s₁.setTop (mkF m 1 #[.val (.ref self)] [(.ref self)]))
  obtain ⟨_, _, ⟨T1, L1, k1, n1⟩, -, X1, ⟨Lc1, hQ1, l1, y1, z1⟩, st1⟩ := X0.specialBack hx (y := (⟨"java/util/AbstractSet", "<init>", "()V"⟩ : MethodName)) rfl hown (mvT hZ (hw _ (List.mem_of_getElem? (i := 97) rfl))) (mvT hZ (hw _ (List.mem_of_getElem? (i := 98) rfl))) (mvT hZ (hw _ (List.mem_of_getElem? (i := 102) rfl))) (by decide) (backOf (W := 0) (rm11 l Z a0 hw [] self h0 n0 (by omega)  ) hZ (hw _ (List.mem_of_getElem? (i := 102) rfl)) (hw _ (List.mem_of_getElem? (i := 101) rfl)) (by decide) (by decide)) (g := (mkF m 1 #[.val (.ref self)] [(.ref self)])) rfl (by rw [hml]; rfl) (Steps.refl _) (a := self) (argsL := []) (rest := []) (lenOf pd_0 rfl) rfl (by show 2 * 0 + _ ≤ _; exact Nat.le_of_eq rfl) (hb hby d17_1) (fun _ _ => ⟨rfl, e0, (by decide : 0 + 0 ≤ _), (by decide : 0 + 0 ≤ _)⟩)
  dsimp only [Pt.U, Pt.locs, Pt.cells, Pt.slots] at X1 l1 y1 z1 st1 hQ1
  subst l1 y1 z1
  obtain ⟨rfl, Nq1, hs1⟩ := hQ1
  have N1 := Fr.app N0 Nq1
  refine Comes.go st1 ?_
  show Comes p e below _ (T1.setTop (mkF m 4 #[.val (.ref self)] []))
  refine Comes.st (fun t k => XS.aloadN X1.here hx rfl (hb hby d17_4) rfl rfl k) ?_
  show Comes p e below _ (T1.setTop (mkF m 5 #[.val (.ref self)] [(.ref self)]))
  obtain ⟨T2, h2, X2, e2, E2, A2, D2, -, st2⟩ := newO X1 hx hZ hown (hw _ (List.mem_of_getElem? (i := 140) rfl)) (hw _ (List.mem_of_getElem? (i := 76) rfl)) (hw _ (List.mem_of_getElem? (i := 57) rfl)) hs1 (g := (mkF m 5 #[.val (.ref self)] [(.ref self)])) rfl (hb hby d17_5) (by decide) (by decide)
  obtain ⟨b2, g2⟩ : ∃ z, z = h0.size := ⟨_, rfl⟩
  rw [← g2] at A2 D2 st2
  have z2 : h0.size ≤ h2.size := E2.1
  have lt2 : b2 < h2.size := A2.lt
  have F3 : Fld Z h2 b2 "java/util/HashMap" "loadFactor" "F" (.float 0) := D2 (Or.inr (hw _ (List.mem_of_getElem? (i := 79) rfl))) (ty := .float) (by decide)
  have K2 : Keep h0 h2 [self] := K0.ext E2
  refine Comes.st st2 ?_
  show Comes p e below _ (T2.setTop (mkF m 8 #[.val (.ref self)] [(.ref b2), (.ref self)]))
  refine Comes.st (fun t k => XS.dup X2.here hx rfl (hb hby d17_8) rfl rfl k) ?_
  show Comes p e below _ (T2.setTop (mkF m 9 #[.val (.ref self)] [(.ref b2), (.ref b2), (.ref self)]))
  obtain ⟨_, _, ⟨T4, L4, k4, n4⟩, -, X4, ⟨Lc4, hQ4, l4, y4, z4⟩, st4⟩ := X2.specialBack hx (y := (⟨"java/util/HashMap", "<init>", "()V"⟩ : MethodName)) rfl hown (mvT hZ (hw _ (List.mem_of_getElem? (i := 141) rfl))) (mvT hZ (hw _ (List.mem_of_getElem? (i := 54) rfl))) (mvT hZ (hw _ (List.mem_of_getElem? (i := 58) rfl))) (by decide) (backOf (W := 2) (hmH l Z a0 hw [] b2 h2 n0 (by omega)  A2 F3 (by omega)) hZ (hw _ (List.mem_of_getElem? (i := 58) rfl)) (hw _ (List.mem_of_getElem? (i := 57) rfl)) (by decide) (by decide)) (g := (mkF m 9 #[.val (.ref self)] [(.ref b2), (.ref b2), (.ref self)])) rfl (by rw [hml]; rfl) (Steps.refl _) (a := b2) (argsL := []) (rest := [(.ref b2), (.ref self)]) (lenOf pd_0 rfl) rfl (by show 2 * 0 + _ ≤ _; exact Nat.le_of_eq rfl) (hb hby d17_9) (fun _ _ => ⟨rfl, e2, (by decide : 1 + 0 ≤ _), (by decide : 8 + 0 ≤ _)⟩)
  dsimp only [Pt.U, Pt.locs, Pt.cells, Pt.slots] at X4 l4 y4 z4 st4 hQ4
  subst l4 y4 z4
  obtain ⟨rfl, Nq4, Kq4, P4_0⟩ := hQ4
  have N4 := Fr.app N1 Nq4
  have z4k : h2.size ≤ T4.heap.size := Kq4.1
  have gz5 : h0.size ≤ b2 := by omega
  have K4 : Keep h0 T4.heap [self] := K2.trans Kq4 (allS (Or.inr gz5) all0)
  refine Comes.go st4 ?_
  have lt_6 : b2 < T4.heap.size := P4_0.lt
  show Comes p e below _ (T4.setTop (mkF m 12 #[.val (.ref self)] [(.ref b2), (.ref self)]))
  have F7 : Exa Z T4.heap self "java/util/HashSet" := ((G0.ext E2).keep Kq4)
  have ne8 : self ≠ b2 := by omega
  have F9 : Fld Z T4.heap self "java/util/HashSet" "map" "Ljava/util/HashMap;" .null := ((G1.ext E2).keep Kq4 (ninS ne8 nin0))
  obtain ⟨T10, h10, X10, e10, W10, st10⟩ := putF X4 hx hZ hown (host := "") (Or.inl (hw _ (List.mem_of_getElem? (i := 129) rfl))) Via.refl rfl F9 F7 (Or.inl (hw _ (List.mem_of_getElem? (i := 143) rfl))) (hw _ (List.mem_of_getElem? (i := 134) rfl)) (ty := (.object "java/util/HashMap")) (by decide) rfl rfl (g := (mkF m 12 #[.val (.ref self)] [(.ref b2), (.ref self)])) rfl rfl (hb hby d17_12)
  have Fw10 := F9.same W10
  have z10 : h10.size = T4.heap.size := W10.size
  have gn11 : n0 ≤ self := by omega
  have N10 := Fr.snoc X10 N4 gn11
  have K10 : Keep h0 h10 [self] := K4.wr W10 (Or.inl (List.mem_of_getElem? (i := 0) rfl))
  refine Comes.st st10 ?_
  show Comes p e below _ (T10.setTop (mkF m 15 #[.val (.ref self)] []))
  have F12 : Exa Z h10 self "java/util/HashSet" := (F7.wr W10)
  exact Comes.ret0 X10 hx Bd.returns hlk (hb hby d17_15) e10 ⟨rfl, N10, K10, F12⟩ (by decide) (by decide)
def Q_rm4 (Z : State) (self : Nat) (h0 : Heap) (n0 : Nat) (v : Option Value) (h : Heap) (L : List Loc) : Prop := (v = none) ∧ (Fr n0 L) ∧ (Keep h0 h [self]) ∧ (Exa Z h self "com/example/ferry2/ferry2/store/PendingMessages")
set_option maxRecDepth 65536 in
set_option maxHeartbeats 40000000 in
theorem rm4 (l : Launch) (Z : State) (a0 : Array Value) (hw : ∀ d ∈ tables_1, d.before a0 Z = true) (ws : List Jvm.Cond) (self : Nat) (h0 : Heap) (n0 : Nat) (Z0 : n0 ≤ h0.size) (G0 : Exa Z h0 self "com/example/ferry2/ferry2/store/PendingMessages") (G1 : Fld Z h0 self "com/example/ferry2/ferry2/store/PendingMessages" "ring" "[Lcom/example/ferry2/ferry2/store/SpooledMessage;" .null) (G2 : n0 ≤ self) :
    MetFree l (⟨"com/example/ferry2/ferry2/store/PendingMessages", "<init>", "()V"⟩ : MethodName) (head1 (Jvm.Cond.code (⟨"com/example/ferry2/ferry2/store/PendingMessages", "<init>", "()V"⟩ : MethodName) prog_38_method_1_code 1 none :: ws) ({ frames := 2, cells := 1, slots := 16, locals := 24 } : Room)) (fun a U => a = #[(.ref self)] ∧ Z.Warmed39 U.vm ∧ U.heap = h0) (fun _ _ _ _ _ => True) (fun _ U o U' => ∃ v L, o = .returned v ∧ Q_rm4 Z self h0 n0 v U'.heap L ∧ FrameEnd U o U' L ({ frames := 2, cells := 1, slots := 16, locals := 24 } : Room).cells ({ frames := 2, cells := 1, slots := 16, locals := 24 } : Room).slots) := by
  refine MetFree.of_bodySF (plainFor_of_name pn_4) hisR ?_
  intro p e s m args below meth c s₁ Bd hml0 hP hK
  obtain ⟨rfl, hZ, hh⟩ := hP
  have hx := Bd.exec
  have hby := Bd.bytes
  have hml : c.maxLocals = 1 := hml0
  have hown : s.vm.findClass "com/example/ferry2/ferry2/store/PendingMessages" = some m.cls := findClass_of_methodNamed Bd.named
  have hnm := (name_of_methodNamed Bd.named Bd.method).1
  have hlk : meth.locks = false := Bd.notSynchronized
  have X0 : Stand p l e ({ frames := 2, cells := 1, slots := 16, locals := 24 } : Room) s m #[(.ref self)] below meth c s₁ [] 0 0 := Stand.of_body Bd
  have e0 : s₁.heap = h0 := by rw [← hh, Bd.state]; rfl
  have N0 := Fr.nil n0
  have K0 := Keep.refl h0 [self]
  refine Comes.out (Q := Q_rm4 Z self h0 n0) (kc := ({ frames := 2, cells := 1, slots := 16, locals := 24 } : Room).cells) (ks := ({ frames := 2, cells := 1, slots := 16, locals := 24 } : Room).slots) ?_
  refine Comes.cast (ef_rm4 m self) ?_
  have lt_self : self < h0.size := G0.lt
  show Comes p e below _ (s₁.setTop (mkF m 0 #[.val (.ref self)] []))
  refine Comes.st (fun t k => XS.aloadN X0.here hx rfl (hb hby d4_0) rfl rfl k) ?_
  show Comes p e below _ (s₁.setTop (mkF m 1 #[.val (.ref self)] [(.ref self)]))
  obtain ⟨_, _, ⟨T1, L1, k1, n1⟩, -, X1, ⟨Lc1, hQ1, l1, y1, z1⟩, st1⟩ := X0.specialBack hx (y := (⟨"java/util/AbstractCollection", "<init>", "()V"⟩ : MethodName)) rfl hown (mvT hZ (hw _ (List.mem_of_getElem? (i := 28) rfl))) (mvT hZ (hw _ (List.mem_of_getElem? (i := 29) rfl))) (mvT hZ (hw _ (List.mem_of_getElem? (i := 32) rfl))) (by decide) (backOf (W := 0) (rm5 l Z a0 hw [] self h0 n0 (by omega)  ) hZ (hw _ (List.mem_of_getElem? (i := 32) rfl)) (hw _ (List.mem_of_getElem? (i := 31) rfl)) (by decide) (by decide)) (g := (mkF m 1 #[.val (.ref self)] [(.ref self)])) rfl (by rw [hml]; rfl) (Steps.refl _) (a := self) (argsL := []) (rest := []) (lenOf pd_0 rfl) rfl (by show 2 * 0 + _ ≤ _; exact Nat.le_of_eq rfl) (hb hby d4_1) (fun _ _ => ⟨rfl, e0, (by decide : 0 + 0 ≤ _), (by decide : 0 + 0 ≤ _)⟩)
  dsimp only [Pt.U, Pt.locs, Pt.cells, Pt.slots] at X1 l1 y1 z1 st1 hQ1
  subst l1 y1 z1
  obtain ⟨rfl, Nq1, hs1⟩ := hQ1
  have N1 := Fr.app N0 Nq1
  refine Comes.go st1 ?_
  show Comes p e below _ (T1.setTop (mkF m 4 #[.val (.ref self)] []))
  refine Comes.st (fun t k => XS.aloadN X1.here hx rfl (hb hby d4_4) rfl rfl (XS.bipush X1.here hx rfl (hb hby d4_5) k)) ?_
  show Comes p e below _ (T1.setTop (mkF m 7 #[.val (.ref self)] [(.int (16 : Int32)), (.ref self)]))
  obtain ⟨T2, h2, k2, X2, e2, E2, A2, O2, st2⟩ := newR X1 hx hZ hown (hw _ (List.mem_of_getElem? (i := 34) rfl)) (hw _ (List.mem_of_getElem? (i := 35) rfl)) hs1 (g := (mkF m 7 #[.val (.ref self)] [(.int (16 : Int32)), (.ref self)])) rfl (hb hby d4_7) rfl (by decide) (cap := 16) (by decide) (by decide) (by decide) (by decide)
  obtain ⟨b2, g2⟩ : ∃ z, z = h0.size := ⟨_, rfl⟩
  rw [← g2] at A2 st2
  have z2 : h0.size ≤ h2.size := E2.1
  have lt2 : b2 < h2.size := A2.lt
  have V2 : Arv Z h2 b2 k2 (.object "com/example/ferry2/ferry2/store/SpooledMessage") (16 : Int32) [.null, .null, .null, .null, .null, .null, .null, .null, .null, .null, .null, .null, .null, .null, .null, .null] .null := (Arv.new A2 (by decide)).pad (pad_rep [] .null 16)
  have K2 : Keep h0 h2 [self] := K0.ext E2
  refine Comes.st st2 ?_
  show Comes p e below _ (T2.setTop (mkF m 10 #[.val (.ref self)] [(.ref b2), (.ref self)]))
  have F3 : Exa Z h2 self "com/example/ferry2/ferry2/store/PendingMessages" := (G0.ext E2)
  have F4 : Fld Z h2 self "com/example/ferry2/ferry2/store/PendingMessages" "ring" "[Lcom/example/ferry2/ferry2/store/SpooledMessage;" .null := (G1.ext E2)
  obtain ⟨T5, h5, X5, e5, W5, st5⟩ := putF X2 hx hZ hown (host := "") (Or.inl (hw _ (List.mem_of_getElem? (i := 36) rfl))) Via.refl e2 F4 F3 (Or.inl (hw _ (List.mem_of_getElem? (i := 37) rfl))) (hw _ (List.mem_of_getElem? (i := 23) rfl)) (ty := (.array (.object "com/example/ferry2/ferry2/store/SpooledMessage"))) (by decide) rfl rfl (g := (mkF m 10 #[.val (.ref self)] [(.ref b2), (.ref self)])) rfl rfl (hb hby d4_10)
  have Fw5 := F4.same W5
  have z5 : h5.size = h2.size := W5.size
  have gn6 : n0 ≤ self := by omega
  have N5 := Fr.snoc X5 N1 gn6
  have K5 : Keep h0 h5 [self] := K2.wr W5 (Or.inl (List.mem_of_getElem? (i := 0) rfl))
  refine Comes.st st5 ?_
  show Comes p e below _ (T5.setTop (mkF m 13 #[.val (.ref self)] []))
  have F7 : Exa Z h5 self "com/example/ferry2/ferry2/store/PendingMessages" := (F3.wr W5)
  exact Comes.ret0 X5 hx Bd.returns hlk (hb hby d4_13) e5 ⟨rfl, N5, K5, F7⟩ (by decide) (by decide)
def Q_rm2 (Z : State) (self : Nat) (idv : Int64) (h0 : Heap) (n0 : Nat) (v : Option Value) (h : Heap) (L : List Loc) : Prop := (v = none) ∧ (Fr n0 L) ∧ (Keep h0 h [self]) ∧ (Exa Z h self "com/example/ferry2/ferry2/store/Session") ∧ (Fld Z h self "com/example/ferry2/ferry2/store/Session" "expiryInterval" "J" (.long (0 : Int64))) ∧ (Fld Z h self "com/example/ferry2/ferry2/store/Session" "awaySince" "J" (.long (0 : Int64))) ∧ (Fld Z h self "com/example/ferry2/ferry2/store/Session" "subscriptions" "Ljava/util/Map;" .null) ∧ (Fld Z h self "com/example/ferry2/ferry2/store/Session" "deliveries" "Ljava/util/Map;" .null) ∧ (Fld Z h self "com/example/ferry2/ferry2/store/Session" "packetIds" "Ljava/util/Map;" .null) ∧ (Fld Z h self "com/example/ferry2/ferry2/store/Session" "awaitingCompletion" "Ljava/util/Set;" .null) ∧ (Fld Z h self "com/example/ferry2/ferry2/store/Session" "awaitingRelease" "Ljava/util/Set;" .null) ∧ (Fld Z h self "com/example/ferry2/ferry2/store/Session" "clientId" "Ljava/lang/String;" .null)
set_option maxRecDepth 65536 in
set_option maxHeartbeats 40000000 in
theorem rm2 (l : Launch) (Z : State) (a0 : Array Value) (hw : ∀ d ∈ tables_1, d.before a0 Z = true) (ws : List Jvm.Cond) (self : Nat) (idv : Int64) (h0 : Heap) (n0 : Nat) (Z0 : n0 ≤ h0.size) (G0 : Exa Z h0 self "com/example/ferry2/ferry2/store/Session") (G1 : Fld Z h0 self "com/example/ferry2/ferry2/store/Session" "expiryInterval" "J" (.long (0 : Int64))) (G2 : Fld Z h0 self "com/example/ferry2/ferry2/store/Session" "awaySince" "J" (.long (0 : Int64))) (G3 : Fld Z h0 self "com/example/ferry2/ferry2/store/Session" "subscriptions" "Ljava/util/Map;" .null) (G4 : Fld Z h0 self "com/example/ferry2/ferry2/store/Session" "deliveries" "Ljava/util/Map;" .null) (G5 : Fld Z h0 self "com/example/ferry2/ferry2/store/Session" "packetIds" "Ljava/util/Map;" .null) (G6 : Fld Z h0 self "com/example/ferry2/ferry2/store/Session" "awaitingCompletion" "Ljava/util/Set;" .null) (G7 : Fld Z h0 self "com/example/ferry2/ferry2/store/Session" "awaitingRelease" "Ljava/util/Set;" .null) (G8 : Fld Z h0 self "com/example/ferry2/ferry2/store/Session" "clientId" "Ljava/lang/String;" .null) (G9 : Fld Z h0 self "com/example/ferry2/ferry2/store/Endpoint" "pending" "Lcom/example/ferry2/ferry2/store/PendingMessages;" .null) (G10 : Fld Z h0 self "com/example/ferry2/ferry2/store/Endpoint" "id" "J" (.long (0 : Int64))) (G11 : n0 ≤ self) :
    MetFree l (⟨"com/example/ferry2/ferry2/store/Endpoint", "<init>", "(J)V"⟩ : MethodName) (head1 (Jvm.Cond.code (⟨"com/example/ferry2/ferry2/store/Endpoint", "<init>", "(J)V"⟩ : MethodName) prog_37_method_1_code 3 none :: ws) ({ frames := 3, cells := 2, slots := 20, locals := 38 } : Room)) (fun a U => a = #[(.ref self), (.long idv)] ∧ Z.Warmed39 U.vm ∧ U.heap = h0) (fun _ _ _ _ _ => True) (fun _ U o U' => ∃ v L, o = .returned v ∧ Q_rm2 Z self idv h0 n0 v U'.heap L ∧ FrameEnd U o U' L ({ frames := 3, cells := 2, slots := 20, locals := 38 } : Room).cells ({ frames := 3, cells := 2, slots := 20, locals := 38 } : Room).slots) := by
  refine MetFree.of_bodySF (plainFor_of_name pn_2) hisR ?_
  intro p e s m args below meth c s₁ Bd hml0 hP hK
  obtain ⟨rfl, hZ, hh⟩ := hP
  have hx := Bd.exec
  have hby := Bd.bytes
  have hml : c.maxLocals = 3 := hml0
  have hown : s.vm.findClass "com/example/ferry2/ferry2/store/Endpoint" = some m.cls := findClass_of_methodNamed Bd.named
  have hnm := (name_of_methodNamed Bd.named Bd.method).1
  have hlk : meth.locks = false := Bd.notSynchronized
  have X0 : Stand p l e ({ frames := 3, cells := 2, slots := 20, locals := 38 } : Room) s m #[(.ref self), (.long idv)] below meth c s₁ [] 0 0 := Stand.of_body Bd
  have e0 : s₁.heap = h0 := by rw [← hh, Bd.state]; rfl
  have N0 := Fr.nil n0
  have K0 := Keep.refl h0 [self]
  refine Comes.out (Q := Q_rm2 Z self idv h0 n0) (kc := ({ frames := 3, cells := 2, slots := 20, locals := 38 } : Room).cells) (ks := ({ frames := 3, cells := 2, slots := 20, locals := 38 } : Room).slots) ?_
  refine Comes.cast (ef_rm2 m self idv) ?_
  have lt_self : self < h0.size := G0.lt
  show Comes p e below _ (s₁.setTop (mkF m 0 #[.val (.ref self), .val (.long idv), .second] []))
  refine Comes.st (fun t k => XS.aloadN X0.here hx rfl (hb hby d2_0) rfl rfl k) ?_
  show Comes p e below _ (s₁.setTop (mkF m 1 #[.val (.ref self), .val (.long idv), .second] [(.ref self)]))
  obtain ⟨T1, X1, e1, st1⟩ := initO X0 hx hZ hown (hw _ (List.mem_of_getElem? (i := 19) rfl)) (hw _ (List.mem_of_getElem? (i := 20) rfl)) (hw _ (List.mem_of_getElem? (i := 21) rfl)) e0 (g := (mkF m 1 #[.val (.ref self), .val (.long idv), .second] [(.ref self)])) rfl (by rw [hml]; rfl) rfl (hb hby d2_1) (by decide) (W := 0) (by show 2 * 0 + _ ≤ _; exact Nat.le_of_eq rfl) (by decide)
  refine Comes.st st1 ?_
  show Comes p e below _ (T1.setTop (mkF m 4 #[.val (.ref self), .val (.long idv), .second] []))
  refine Comes.st (fun t k => XS.aloadN X1.here hx rfl (hb hby d2_4) rfl rfl k) ?_
  show Comes p e below _ (T1.setTop (mkF m 5 #[.val (.ref self), .val (.long idv), .second] [(.ref self)]))
  obtain ⟨T2, h2, X2, e2, E2, A2, D2, -, st2⟩ := newO X1 hx hZ hown (hw _ (List.mem_of_getElem? (i := 22) rfl)) (hw _ (List.mem_of_getElem? (i := 23) rfl)) (hw _ (List.mem_of_getElem? (i := 24) rfl)) e1 (g := (mkF m 5 #[.val (.ref self), .val (.long idv), .second] [(.ref self)])) rfl (hb hby d2_5) (by decide) (by decide)
  obtain ⟨b2, g2⟩ : ∃ z, z = h0.size := ⟨_, rfl⟩
  rw [← g2] at A2 D2 st2
  have z2 : h0.size ≤ h2.size := E2.1
  have lt2 : b2 < h2.size := A2.lt
  have F3 : Fld Z h2 b2 "com/example/ferry2/ferry2/store/PendingMessages" "ring" "[Lcom/example/ferry2/ferry2/store/SpooledMessage;" .null := D2 (Or.inl (hw _ (List.mem_of_getElem? (i := 37) rfl))) (ty := (.array (.object "com/example/ferry2/ferry2/store/SpooledMessage"))) (by decide)
  have K2 : Keep h0 h2 [self] := K0.ext E2
  refine Comes.st st2 ?_
  show Comes p e below _ (T2.setTop (mkF m 8 #[.val (.ref self), .val (.long idv), .second] [(.ref b2), (.ref self)]))
  refine Comes.st (fun t k => XS.dup X2.here hx rfl (hb hby d2_8) rfl rfl k) ?_
  show Comes p e below _ (T2.setTop (mkF m 9 #[.val (.ref self), .val (.long idv), .second] [(.ref b2), (.ref b2), (.ref self)]))
  obtain ⟨_, _, ⟨T4, L4, k4, n4⟩, -, X4, ⟨Lc4, hQ4, l4, y4, z4⟩, st4⟩ := X2.specialBack hx (y := (⟨"com/example/ferry2/ferry2/store/PendingMessages", "<init>", "()V"⟩ : MethodName)) rfl hown (mvT hZ (hw _ (List.mem_of_getElem? (i := 25) rfl))) (mvT hZ (hw _ (List.mem_of_getElem? (i := 26) rfl))) (mvT hZ (hw _ (List.mem_of_getElem? (i := 27) rfl))) (by decide) (backOf (W := 2) (rm4 l Z a0 hw [] b2 h2 n0 (by omega)  A2 F3 (by omega)) hZ (hw _ (List.mem_of_getElem? (i := 27) rfl)) (hw _ (List.mem_of_getElem? (i := 24) rfl)) (by decide) (by decide)) (g := (mkF m 9 #[.val (.ref self), .val (.long idv), .second] [(.ref b2), (.ref b2), (.ref self)])) rfl (by rw [hml]; rfl) (Steps.refl _) (a := b2) (argsL := []) (rest := [(.ref b2), (.ref self)]) (lenOf pd_0 rfl) rfl (by show 2 * 0 + _ ≤ _; exact Nat.le_of_eq rfl) (hb hby d2_9) (fun _ _ => ⟨rfl, e2, (by decide : 1 + 1 ≤ _), (by decide : 4 + 16 ≤ _)⟩)
  dsimp only [Pt.U, Pt.locs, Pt.cells, Pt.slots] at X4 l4 y4 z4 st4 hQ4
  subst l4 y4 z4
  obtain ⟨rfl, Nq4, Kq4, P4_0⟩ := hQ4
  have N4 := Fr.app N0 Nq4
  have z4k : h2.size ≤ T4.heap.size := Kq4.1
  have gz5 : h0.size ≤ b2 := by omega
  have K4 : Keep h0 T4.heap [self] := K2.trans Kq4 (allS (Or.inr gz5) all0)
  refine Comes.go st4 ?_
  have lt_6 : b2 < T4.heap.size := P4_0.lt
  show Comes p e below _ (T4.setTop (mkF m 12 #[.val (.ref self), .val (.long idv), .second] [(.ref b2), (.ref self)]))
  have F7 : Exa Z T4.heap self "com/example/ferry2/ferry2/store/Session" := ((G0.ext E2).keep Kq4)
  have ne8 : self ≠ b2 := by omega
  have F9 : Fld Z T4.heap self "com/example/ferry2/ferry2/store/Endpoint" "pending" "Lcom/example/ferry2/ferry2/store/PendingMessages;" .null := ((G9.ext E2).keep Kq4 (ninS ne8 nin0))
  obtain ⟨T10, h10, X10, e10, W10, st10⟩ := putF X4 hx hZ hown (host := "") (Or.inl (hw _ (List.mem_of_getElem? (i := 38) rfl))) Via.refl rfl F9 F7 (Or.inr ⟨(hw _ (List.mem_of_getElem? (i := 39) rfl)), rfl, hnm⟩) (hw _ (List.mem_of_getElem? (i := 1) rfl)) (ty := (.object "com/example/ferry2/ferry2/store/PendingMessages")) (by decide) rfl rfl (g := (mkF m 12 #[.val (.ref self), .val (.long idv), .second] [(.ref b2), (.ref self)])) rfl rfl (hb hby d2_12)
  have Fw10 := F9.same W10
  have z10 : h10.size = T4.heap.size := W10.size
  have gn11 : n0 ≤ self := by omega
  have N10 := Fr.snoc X10 N4 gn11
  have K10 : Keep h0 h10 [self] := K4.wr W10 (Or.inl (List.mem_of_getElem? (i := 0) rfl))
  refine Comes.st st10 ?_
  show Comes p e below _ (T10.setTop (mkF m 15 #[.val (.ref self), .val (.long idv), .second] []))
  refine Comes.st (fun t k => XS.aloadN X10.here hx rfl (hb hby d2_15) rfl rfl (XS.lloadN X10.here hx rfl (hb hby d2_16) rfl k)) ?_
  show Comes p e below _ (T10.setTop (mkF m 17 #[.val (.ref self), .val (.long idv), .second] [(.long idv), (.ref self)]))
  have F12 : Exa Z h10 self "com/example/ferry2/ferry2/store/Session" := (F7.wr W10)
  have F13 : Fld Z h10 self "com/example/ferry2/ferry2/store/Endpoint" "id" "J" (.long (0 : Int64)) := (((G10.ext E2).keep Kq4 (ninS ne8 nin0)).other W10 (Or.inr (slot_ne (Or.inr (hw _ (List.mem_of_getElem? (i := 41) rfl))) (Or.inr (hw _ (List.mem_of_getElem? (i := 39) rfl))) (by decide) (t := .long) (t' := (.object "com/example/ferry2/ferry2/store/PendingMessages")) (by decide) (by decide))))
  obtain ⟨T14, h14, X14, e14, W14, st14⟩ := putF X10 hx hZ hown (host := "") (Or.inl (hw _ (List.mem_of_getElem? (i := 40) rfl))) Via.refl e10 F13 F12 (Or.inr ⟨(hw _ (List.mem_of_getElem? (i := 41) rfl)), rfl, hnm⟩) (hw _ (List.mem_of_getElem? (i := 1) rfl)) (ty := .long) (by decide) rfl rfl (g := (mkF m 17 #[.val (.ref self), .val (.long idv), .second] [(.long idv), (.ref self)])) rfl rfl (hb hby d2_17)
  have Fw14 := F13.same W14
  have z14 : h14.size = h10.size := W14.size
  have N14 := Fr.snoc X14 N10 gn11
  have K14 : Keep h0 h14 [self] := K10.wr W14 (Or.inl (List.mem_of_getElem? (i := 0) rfl))
  refine Comes.st st14 ?_
  show Comes p e below _ (T14.setTop (mkF m 20 #[.val (.ref self), .val (.long idv), .second] []))
  have F15 : Exa Z h14 self "com/example/ferry2/ferry2/store/Session" := (F12.wr W14)
  have F16 : Fld Z h14 self "com/example/ferry2/ferry2/store/Session" "expiryInterval" "J" (.long (0 : Int64)) := ((((G1.ext E2).keep Kq4 (ninS ne8 nin0)).other W10 (Or.inr (slot_ne (Or.inl (hw _ (List.mem_of_getElem? (i := 44) rfl))) (Or.inr (hw _ (List.mem_of_getElem? (i := 39) rfl))) (by decide) (t := .long) (t' := (.object "com/example/ferry2/ferry2/store/PendingMessages")) (by decide) (by decide)))).other W14 (Or.inr (slot_ne (Or.inl (hw _ (List.mem_of_getElem? (i := 44) rfl))) (Or.inr (hw _ (List.mem_of_getElem? (i := 41) rfl))) (by decide) (t := .long) (t' := .long) (by decide) (by decide))))
  have F17 : Fld Z h14 self "com/example/ferry2/ferry2/store/Session" "awaySince" "J" (.long (0 : Int64)) := ((((G2.ext E2).keep Kq4 (ninS ne8 nin0)).other W10 (Or.inr (slot_ne (Or.inl (hw _ (List.mem_of_getElem? (i := 46) rfl))) (Or.inr (hw _ (List.mem_of_getElem? (i := 39) rfl))) (by decide) (t := .long) (t' := (.object "com/example/ferry2/ferry2/store/PendingMessages")) (by decide) (by decide)))).other W14 (Or.inr (slot_ne (Or.inl (hw _ (List.mem_of_getElem? (i := 46) rfl))) (Or.inr (hw _ (List.mem_of_getElem? (i := 41) rfl))) (by decide) (t := .long) (t' := .long) (by decide) (by decide))))
  have F18 : Fld Z h14 self "com/example/ferry2/ferry2/store/Session" "subscriptions" "Ljava/util/Map;" .null := ((((G3.ext E2).keep Kq4 (ninS ne8 nin0)).other W10 (Or.inr (slot_ne (Or.inr (hw _ (List.mem_of_getElem? (i := 74) rfl))) (Or.inr (hw _ (List.mem_of_getElem? (i := 39) rfl))) (by decide) (t := (.object "java/util/Map")) (t' := (.object "com/example/ferry2/ferry2/store/PendingMessages")) (by decide) (by decide)))).other W14 (Or.inr (slot_ne (Or.inr (hw _ (List.mem_of_getElem? (i := 74) rfl))) (Or.inr (hw _ (List.mem_of_getElem? (i := 41) rfl))) (by decide) (t := (.object "java/util/Map")) (t' := .long) (by decide) (by decide))))
  have F19 : Fld Z h14 self "com/example/ferry2/ferry2/store/Session" "deliveries" "Ljava/util/Map;" .null := ((((G4.ext E2).keep Kq4 (ninS ne8 nin0)).other W10 (Or.inr (slot_ne (Or.inr (hw _ (List.mem_of_getElem? (i := 81) rfl))) (Or.inr (hw _ (List.mem_of_getElem? (i := 39) rfl))) (by decide) (t := (.object "java/util/Map")) (t' := (.object "com/example/ferry2/ferry2/store/PendingMessages")) (by decide) (by decide)))).other W14 (Or.inr (slot_ne (Or.inr (hw _ (List.mem_of_getElem? (i := 81) rfl))) (Or.inr (hw _ (List.mem_of_getElem? (i := 41) rfl))) (by decide) (t := (.object "java/util/Map")) (t' := .long) (by decide) (by decide))))
  have F20 : Fld Z h14 self "com/example/ferry2/ferry2/store/Session" "packetIds" "Ljava/util/Map;" .null := ((((G5.ext E2).keep Kq4 (ninS ne8 nin0)).other W10 (Or.inr (slot_ne (Or.inr (hw _ (List.mem_of_getElem? (i := 83) rfl))) (Or.inr (hw _ (List.mem_of_getElem? (i := 39) rfl))) (by decide) (t := (.object "java/util/Map")) (t' := (.object "com/example/ferry2/ferry2/store/PendingMessages")) (by decide) (by decide)))).other W14 (Or.inr (slot_ne (Or.inr (hw _ (List.mem_of_getElem? (i := 83) rfl))) (Or.inr (hw _ (List.mem_of_getElem? (i := 41) rfl))) (by decide) (t := (.object "java/util/Map")) (t' := .long) (by decide) (by decide))))
  have F21 : Fld Z h14 self "com/example/ferry2/ferry2/store/Session" "awaitingCompletion" "Ljava/util/Set;" .null := ((((G6.ext E2).keep Kq4 (ninS ne8 nin0)).other W10 (Or.inr (slot_ne (Or.inr (hw _ (List.mem_of_getElem? (i := 132) rfl))) (Or.inr (hw _ (List.mem_of_getElem? (i := 39) rfl))) (by decide) (t := (.object "java/util/Set")) (t' := (.object "com/example/ferry2/ferry2/store/PendingMessages")) (by decide) (by decide)))).other W14 (Or.inr (slot_ne (Or.inr (hw _ (List.mem_of_getElem? (i := 132) rfl))) (Or.inr (hw _ (List.mem_of_getElem? (i := 41) rfl))) (by decide) (t := (.object "java/util/Set")) (t' := .long) (by decide) (by decide))))
  have F22 : Fld Z h14 self "com/example/ferry2/ferry2/store/Session" "awaitingRelease" "Ljava/util/Set;" .null := ((((G7.ext E2).keep Kq4 (ninS ne8 nin0)).other W10 (Or.inr (slot_ne (Or.inr (hw _ (List.mem_of_getElem? (i := 145) rfl))) (Or.inr (hw _ (List.mem_of_getElem? (i := 39) rfl))) (by decide) (t := (.object "java/util/Set")) (t' := (.object "com/example/ferry2/ferry2/store/PendingMessages")) (by decide) (by decide)))).other W14 (Or.inr (slot_ne (Or.inr (hw _ (List.mem_of_getElem? (i := 145) rfl))) (Or.inr (hw _ (List.mem_of_getElem? (i := 41) rfl))) (by decide) (t := (.object "java/util/Set")) (t' := .long) (by decide) (by decide))))
  have F23 : Fld Z h14 self "com/example/ferry2/ferry2/store/Session" "clientId" "Ljava/lang/String;" .null := ((((G8.ext E2).keep Kq4 (ninS ne8 nin0)).other W10 (Or.inr (slot_ne (Or.inr (hw _ (List.mem_of_getElem? (i := 147) rfl))) (Or.inr (hw _ (List.mem_of_getElem? (i := 39) rfl))) (by decide) (t := (.object "java/lang/String")) (t' := (.object "com/example/ferry2/ferry2/store/PendingMessages")) (by decide) (by decide)))).other W14 (Or.inr (slot_ne (Or.inr (hw _ (List.mem_of_getElem? (i := 147) rfl))) (Or.inr (hw _ (List.mem_of_getElem? (i := 41) rfl))) (by decide) (t := (.object "java/lang/String")) (t' := .long) (by decide) (by decide))))
  exact Comes.ret0 X14 hx Bd.returns hlk (hb hby d2_20) e14 ⟨rfl, N14, K14, F15, F16, F17, F18, F19, F20, F21, F22, F23⟩ (by decide) (by decide)
def Q_rm1 (Z : State) (self : Nat) (idv : Int64) (cid : Nat) (h0 : Heap) (n0 : Nat) (v : Option Value) (h : Heap) (L : List Loc) : Prop := (v = none) ∧ (Fr n0 L) ∧ (Keep h0 h [self]) ∧ (Exa Z h self "com/example/ferry2/ferry2/store/Session") ∧ (Fld Z h self "com/example/ferry2/ferry2/store/Session" "expiryInterval" "J" (.long (4294967295 : Int64))) ∧ (Fld Z h self "com/example/ferry2/ferry2/store/Session" "awaySince" "J" (.long (0 : Int64)))
set_option maxRecDepth 65536 in
set_option maxHeartbeats 40000000 in
theorem rm1 (l : Launch) (Z : State) (a0 : Array Value) (hw : ∀ d ∈ tables_1, d.before a0 Z = true) (ws : List Jvm.Cond) (self : Nat) (idv : Int64) (cid : Nat) (h0 : Heap) (n0 : Nat) (Z0 : n0 ≤ h0.size) (G0 : Exa Z h0 self "com/example/ferry2/ferry2/store/Session") (G1 : Fld Z h0 self "com/example/ferry2/ferry2/store/Session" "expiryInterval" "J" (.long (0 : Int64))) (G2 : Fld Z h0 self "com/example/ferry2/ferry2/store/Session" "awaySince" "J" (.long (0 : Int64))) (G3 : Fld Z h0 self "com/example/ferry2/ferry2/store/Session" "subscriptions" "Ljava/util/Map;" .null) (G4 : Fld Z h0 self "com/example/ferry2/ferry2/store/Session" "deliveries" "Ljava/util/Map;" .null) (G5 : Fld Z h0 self "com/example/ferry2/ferry2/store/Session" "packetIds" "Ljava/util/Map;" .null) (G6 : Fld Z h0 self "com/example/ferry2/ferry2/store/Session" "awaitingCompletion" "Ljava/util/Set;" .null) (G7 : Fld Z h0 self "com/example/ferry2/ferry2/store/Session" "awaitingRelease" "Ljava/util/Set;" .null) (G8 : Fld Z h0 self "com/example/ferry2/ferry2/store/Session" "clientId" "Ljava/lang/String;" .null) (G9 : Fld Z h0 self "com/example/ferry2/ferry2/store/Endpoint" "pending" "Lcom/example/ferry2/ferry2/store/PendingMessages;" .null) (G10 : Fld Z h0 self "com/example/ferry2/ferry2/store/Endpoint" "id" "J" (.long (0 : Int64))) (G11 : n0 ≤ self) :
    MetFree l (⟨"com/example/ferry2/ferry2/store/Session", "<init>", "(JLjava/lang/String;)V"⟩ : MethodName) (head1 (Jvm.Cond.code (⟨"com/example/ferry2/ferry2/store/Session", "<init>", "(JLjava/lang/String;)V"⟩ : MethodName) prog_43_method_1_code 4 none :: ws) ({ frames := 6, cells := 9, slots := 74, locals := 87 } : Room)) (fun a U => a = #[(.ref self), (.long idv), (.ref cid)] ∧ Z.Warmed39 U.vm ∧ U.heap = h0) (fun _ _ _ _ _ => True) (fun _ U o U' => ∃ v L, o = .returned v ∧ Q_rm1 Z self idv cid h0 n0 v U'.heap L ∧ FrameEnd U o U' L ({ frames := 6, cells := 9, slots := 74, locals := 87 } : Room).cells ({ frames := 6, cells := 9, slots := 74, locals := 87 } : Room).slots) := by
  refine MetFree.of_bodySF (plainFor_of_name pn_1) hisR ?_
  intro p e s m args below meth c s₁ Bd hml0 hP hK
  obtain ⟨rfl, hZ, hh⟩ := hP
  have hx := Bd.exec
  have hby := Bd.bytes
  have hml : c.maxLocals = 4 := hml0
  have hown : s.vm.findClass "com/example/ferry2/ferry2/store/Session" = some m.cls := findClass_of_methodNamed Bd.named
  have hnm := (name_of_methodNamed Bd.named Bd.method).1
  have hlk : meth.locks = false := Bd.notSynchronized
  have X0 : Stand p l e ({ frames := 6, cells := 9, slots := 74, locals := 87 } : Room) s m #[(.ref self), (.long idv), (.ref cid)] below meth c s₁ [] 0 0 := Stand.of_body Bd
  have e0 : s₁.heap = h0 := by rw [← hh, Bd.state]; rfl
  have N0 := Fr.nil n0
  have K0 := Keep.refl h0 [self]
  refine Comes.out (Q := Q_rm1 Z self idv cid h0 n0) (kc := ({ frames := 6, cells := 9, slots := 74, locals := 87 } : Room).cells) (ks := ({ frames := 6, cells := 9, slots := 74, locals := 87 } : Room).slots) ?_
  refine Comes.cast (ef_rm1 m self idv cid) ?_
  have lt_self : self < h0.size := G0.lt
  show Comes p e below _ (s₁.setTop (mkF m 0 #[.val (.ref self), .val (.long idv), .second, .val (.ref cid)] []))
  refine Comes.st (fun t k => XS.aloadN X0.here hx rfl (hb hby d1_0) rfl rfl (XS.lloadN X0.here hx rfl (hb hby d1_1) rfl k)) ?_
  show Comes p e below _ (s₁.setTop (mkF m 2 #[.val (.ref self), .val (.long idv), .second, .val (.ref cid)] [(.long idv), (.ref self)]))
  obtain ⟨_, _, ⟨T1, L1, k1, n1⟩, -, X1, ⟨Lc1, hQ1, l1, y1, z1⟩, st1⟩ := X0.specialBack hx (y := (⟨"com/example/ferry2/ferry2/store/Endpoint", "<init>", "(J)V"⟩ : MethodName)) rfl hown (mvT hZ (hw _ (List.mem_of_getElem? (i := 14) rfl))) (mvT hZ (hw _ (List.mem_of_getElem? (i := 15) rfl))) (mvT hZ (hw _ (List.mem_of_getElem? (i := 18) rfl))) (by decide) (backOf (W := 0) (rm2 l Z a0 hw [] self idv h0 n0 (by omega)  G0 G1 G2 G3 G4 G5 G6 G7 G8 G9 G10 (by omega)) hZ (hw _ (List.mem_of_getElem? (i := 18) rfl)) (hw _ (List.mem_of_getElem? (i := 17) rfl)) (by decide) (by decide)) (g := (mkF m 2 #[.val (.ref self), .val (.long idv), .second, .val (.ref cid)] [(.long idv), (.ref self)])) rfl (by rw [hml]; rfl) (Steps.refl _) (a := self) (argsL := [(.long idv)]) (rest := []) (lenOf pd_5 rfl) rfl (by show 2 * 0 + _ ≤ _; exact Nat.le_of_eq rfl) (hb hby d1_2) (fun _ _ => ⟨rfl, e0, (by decide : 0 + 2 ≤ _), (by decide : 0 + 20 ≤ _)⟩)
  dsimp only [Pt.U, Pt.locs, Pt.cells, Pt.slots] at X1 l1 y1 z1 st1 hQ1
  subst l1 y1 z1
  obtain ⟨rfl, Nq1, Kq1, P1_0, P1_1, P1_2, P1_3, P1_4, P1_5, P1_6, P1_7, P1_8⟩ := hQ1
  have N1 := Fr.app N0 Nq1
  have z1k : h0.size ≤ T1.heap.size := Kq1.1
  have K1 : Keep h0 T1.heap [self] := K0.trans Kq1 (allS (Or.inl (List.mem_of_getElem? (i := 0) rfl)) all0)
  refine Comes.go st1 ?_
  show Comes p e below _ (T1.setTop (mkF m 5 #[.val (.ref self), .val (.long idv), .second, .val (.ref cid)] []))
  refine Comes.st (fun t k => XS.aloadN X1.here hx rfl (hb hby d1_5) rfl rfl (X1.ldc2Long hx hown (mvT hZ (hw _ (List.mem_of_getElem? (i := 42) rfl))) (g := (mkF m 6 #[.val (.ref self), .val (.long idv), .second, .val (.ref cid)] [(.ref self)])) rfl (hb hby d1_6) _ k)) ?_
  show Comes p e below _ (T1.setTop (mkF m 9 #[.val (.ref self), .val (.long idv), .second, .val (.ref cid)] [(.long (4294967295 : Int64)), (.ref self)]))
  obtain ⟨T2, h2, X2, e2, W2, st2⟩ := putF X1 hx hZ hown (host := "") (Or.inl (hw _ (List.mem_of_getElem? (i := 43) rfl))) Via.refl rfl P1_1 P1_0 (Or.inl (hw _ (List.mem_of_getElem? (i := 44) rfl))) (hw _ (List.mem_of_getElem? (i := 1) rfl)) (ty := .long) (by decide) rfl rfl (g := (mkF m 9 #[.val (.ref self), .val (.long idv), .second, .val (.ref cid)] [(.long (4294967295 : Int64)), (.ref self)])) rfl rfl (hb hby d1_9)
  have Fw2 := P1_1.same W2
  have z2 : h2.size = T1.heap.size := W2.size
  have gn3 : n0 ≤ self := by omega
  have N2 := Fr.snoc X2 N1 gn3
  have K2 : Keep h0 h2 [self] := K1.wr W2 (Or.inl (List.mem_of_getElem? (i := 0) rfl))
  refine Comes.st st2 ?_
  show Comes p e below _ (T2.setTop (mkF m 12 #[.val (.ref self), .val (.long idv), .second, .val (.ref cid)] []))
  refine Comes.st (fun t k => XS.aloadN X2.here hx rfl (hb hby d1_12) rfl rfl (XS.lconst X2.here hx rfl (hb hby d1_13) k)) ?_
  show Comes p e below _ (T2.setTop (mkF m 14 #[.val (.ref self), .val (.long idv), .second, .val (.ref cid)] [(.long (0 : Int64)), (.ref self)]))
  have F4 : Exa Z h2 self "com/example/ferry2/ferry2/store/Session" := (P1_0.wr W2)
  have F5 : Fld Z h2 self "com/example/ferry2/ferry2/store/Session" "awaySince" "J" (.long (0 : Int64)) := (P1_2.other W2 (Or.inr (slot_ne (Or.inl (hw _ (List.mem_of_getElem? (i := 46) rfl))) (Or.inl (hw _ (List.mem_of_getElem? (i := 44) rfl))) (by decide) (t := .long) (t' := .long) (by decide) (by decide))))
  obtain ⟨T6, h6, X6, e6, W6, st6⟩ := putF X2 hx hZ hown (host := "") (Or.inl (hw _ (List.mem_of_getElem? (i := 45) rfl))) Via.refl e2 F5 F4 (Or.inl (hw _ (List.mem_of_getElem? (i := 46) rfl))) (hw _ (List.mem_of_getElem? (i := 1) rfl)) (ty := .long) (by decide) rfl rfl (g := (mkF m 14 #[.val (.ref self), .val (.long idv), .second, .val (.ref cid)] [(.long (0 : Int64)), (.ref self)])) rfl rfl (hb hby d1_14)
  have Fw6 := F5.same W6
  have z6 : h6.size = h2.size := W6.size
  have N6 := Fr.snoc X6 N2 gn3
  have K6 : Keep h0 h6 [self] := K2.wr W6 (Or.inl (List.mem_of_getElem? (i := 0) rfl))
  refine Comes.st st6 ?_
  show Comes p e below _ (T6.setTop (mkF m 17 #[.val (.ref self), .val (.long idv), .second, .val (.ref cid)] []))
  refine Comes.st (fun t k => XS.aloadN X6.here hx rfl (hb hby d1_17) rfl rfl k) ?_
  show Comes p e below _ (T6.setTop (mkF m 18 #[.val (.ref self), .val (.long idv), .second, .val (.ref cid)] [(.ref self)]))
  obtain ⟨T7, h7, X7, e7, E7, A7, D7, -, st7⟩ := newO X6 hx hZ hown (hw _ (List.mem_of_getElem? (i := 47) rfl)) (hw _ (List.mem_of_getElem? (i := 48) rfl)) (hw _ (List.mem_of_getElem? (i := 49) rfl)) e6 (g := (mkF m 18 #[.val (.ref self), .val (.long idv), .second, .val (.ref cid)] [(.ref self)])) rfl (hb hby d1_18) (by decide) (by decide)
  obtain ⟨b7, g7⟩ : ∃ z, z = h6.size := ⟨_, rfl⟩
  rw [← g7] at A7 D7 st7
  have z7 : h6.size ≤ h7.size := E7.1
  have lt7 : b7 < h7.size := A7.lt
  have F8 : Fld Z h7 b7 "java/util/HashMap" "loadFactor" "F" (.float 0) := D7 (Or.inr (hw _ (List.mem_of_getElem? (i := 68) rfl))) (ty := .float) (by decide)
  have F9 : Fld Z h7 b7 "java/util/LinkedHashMap" "putMode" "I" (.int (0 : Int32)) := D7 (Or.inl (hw _ (List.mem_of_getElem? (i := 70) rfl))) (ty := .int) (by decide)
  have F10 : Fld Z h7 b7 "java/util/LinkedHashMap" "accessOrder" "Z" (.int (0 : Int32)) := D7 (Or.inr (hw _ (List.mem_of_getElem? (i := 72) rfl))) (ty := .boolean) (by decide)
  have F11 : Fld Z h7 b7 "java/util/HashMap" "threshold" "I" (.int (0 : Int32)) := D7 (Or.inl (hw _ (List.mem_of_getElem? (i := 128) rfl))) (ty := .int) (by decide)
  have K7 : Keep h0 h7 [self] := K6.ext E7
  refine Comes.st st7 ?_
  show Comes p e below _ (T7.setTop (mkF m 21 #[.val (.ref self), .val (.long idv), .second, .val (.ref cid)] [(.ref b7), (.ref self)]))
  refine Comes.st (fun t k => XS.dup X7.here hx rfl (hb hby d1_21) rfl rfl k) ?_
  show Comes p e below _ (T7.setTop (mkF m 22 #[.val (.ref self), .val (.long idv), .second, .val (.ref cid)] [(.ref b7), (.ref b7), (.ref self)]))
  obtain ⟨_, _, ⟨T12, L12, k12, n12⟩, -, X12, ⟨Lc12, hQ12, l12, y12, z12⟩, st12⟩ := X7.specialBack hx (y := (⟨"java/util/LinkedHashMap", "<init>", "()V"⟩ : MethodName)) rfl hown (mvT hZ (hw _ (List.mem_of_getElem? (i := 50) rfl))) (mvT hZ (hw _ (List.mem_of_getElem? (i := 51) rfl))) (mvT hZ (hw _ (List.mem_of_getElem? (i := 52) rfl))) (by decide) (backOf (W := 2) (rm6 l Z a0 hw [] b7 h7 n0 (by omega)  A7 F8 F9 F10 F11 (by omega)) hZ (hw _ (List.mem_of_getElem? (i := 52) rfl)) (hw _ (List.mem_of_getElem? (i := 49) rfl)) (by decide) (by decide)) (g := (mkF m 22 #[.val (.ref self), .val (.long idv), .second, .val (.ref cid)] [(.ref b7), (.ref b7), (.ref self)])) rfl (by rw [hml]; rfl) (Steps.refl _) (a := b7) (argsL := []) (rest := [(.ref b7), (.ref self)]) (lenOf pd_0 rfl) rfl (by show 2 * 0 + _ ≤ _; exact Nat.le_of_eq rfl) (hb hby d1_22) (fun _ _ => ⟨rfl, e7, (by decide : 3 + 0 ≤ _), (by decide : 32 + 0 ≤ _)⟩)
  dsimp only [Pt.U, Pt.locs, Pt.cells, Pt.slots] at X12 l12 y12 z12 st12 hQ12
  subst l12 y12 z12
  obtain ⟨rfl, Nq12, Kq12, P12_0⟩ := hQ12
  have N12 := Fr.app N6 Nq12
  have z12k : h7.size ≤ T12.heap.size := Kq12.1
  have gz13 : h0.size ≤ b7 := by omega
  have K12 : Keep h0 T12.heap [self] := K7.trans Kq12 (allS (Or.inr gz13) all0)
  refine Comes.go st12 ?_
  have lt_14 : b7 < T12.heap.size := P12_0.lt
  show Comes p e below _ (T12.setTop (mkF m 25 #[.val (.ref self), .val (.long idv), .second, .val (.ref cid)] [(.ref b7), (.ref self)]))
  have F15 : Exa Z T12.heap self "com/example/ferry2/ferry2/store/Session" := (((F4.wr W6).ext E7).keep Kq12)
  have ne16 : self ≠ b7 := by omega
  have F17 : Fld Z T12.heap self "com/example/ferry2/ferry2/store/Session" "subscriptions" "Ljava/util/Map;" .null := ((((P1_3.other W2 (Or.inr (slot_ne (Or.inr (hw _ (List.mem_of_getElem? (i := 74) rfl))) (Or.inl (hw _ (List.mem_of_getElem? (i := 44) rfl))) (by decide) (t := (.object "java/util/Map")) (t' := .long) (by decide) (by decide)))).other W6 (Or.inr (slot_ne (Or.inr (hw _ (List.mem_of_getElem? (i := 74) rfl))) (Or.inl (hw _ (List.mem_of_getElem? (i := 46) rfl))) (by decide) (t := (.object "java/util/Map")) (t' := .long) (by decide) (by decide)))).ext E7).keep Kq12 (ninS ne16 nin0))
  obtain ⟨T18, h18, X18, e18, W18, st18⟩ := putF X12 hx hZ hown (host := "") (Or.inl (hw _ (List.mem_of_getElem? (i := 73) rfl))) Via.refl rfl F17 F15 (Or.inr ⟨(hw _ (List.mem_of_getElem? (i := 74) rfl)), rfl, hnm⟩) (hw _ (List.mem_of_getElem? (i := 1) rfl)) (ty := (.object "java/util/Map")) (by decide) rfl rfl (g := (mkF m 25 #[.val (.ref self), .val (.long idv), .second, .val (.ref cid)] [(.ref b7), (.ref self)])) rfl rfl (hb hby d1_25)
  have Fw18 := F17.same W18
  have z18 : h18.size = T12.heap.size := W18.size
  have N18 := Fr.snoc X18 N12 gn3
  have K18 : Keep h0 h18 [self] := K12.wr W18 (Or.inl (List.mem_of_getElem? (i := 0) rfl))
  refine Comes.st st18 ?_
  show Comes p e below _ (T18.setTop (mkF m 28 #[.val (.ref self), .val (.long idv), .second, .val (.ref cid)] []))
  refine Comes.st (fun t k => XS.aloadN X18.here hx rfl (hb hby d1_28) rfl rfl k) ?_
  show Comes p e below _ (T18.setTop (mkF m 29 #[.val (.ref self), .val (.long idv), .second, .val (.ref cid)] [(.ref self)]))
  obtain ⟨T19, h19, X19, e19, E19, A19, D19, -, st19⟩ := newO X18 hx hZ hown (hw _ (List.mem_of_getElem? (i := 75) rfl)) (hw _ (List.mem_of_getElem? (i := 76) rfl)) (hw _ (List.mem_of_getElem? (i := 57) rfl)) e18 (g := (mkF m 29 #[.val (.ref self), .val (.long idv), .second, .val (.ref cid)] [(.ref self)])) rfl (hb hby d1_29) (by decide) (by decide)
  obtain ⟨b19, g19⟩ : ∃ z, z = h18.size := ⟨_, rfl⟩
  rw [← g19] at A19 D19 st19
  have z19 : h18.size ≤ h19.size := E19.1
  have lt19 : b19 < h19.size := A19.lt
  have F20 : Fld Z h19 b19 "java/util/HashMap" "loadFactor" "F" (.float 0) := D19 (Or.inr (hw _ (List.mem_of_getElem? (i := 79) rfl))) (ty := .float) (by decide)
  have K19 : Keep h0 h19 [self] := K18.ext E19
  refine Comes.st st19 ?_
  show Comes p e below _ (T19.setTop (mkF m 32 #[.val (.ref self), .val (.long idv), .second, .val (.ref cid)] [(.ref b19), (.ref self)]))
  refine Comes.st (fun t k => XS.dup X19.here hx rfl (hb hby d1_32) rfl rfl k) ?_
  show Comes p e below _ (T19.setTop (mkF m 33 #[.val (.ref self), .val (.long idv), .second, .val (.ref cid)] [(.ref b19), (.ref b19), (.ref self)]))
  obtain ⟨_, _, ⟨T21, L21, k21, n21⟩, -, X21, ⟨Lc21, hQ21, l21, y21, z21⟩, st21⟩ := X19.specialBack hx (y := (⟨"java/util/HashMap", "<init>", "()V"⟩ : MethodName)) rfl hown (mvT hZ (hw _ (List.mem_of_getElem? (i := 77) rfl))) (mvT hZ (hw _ (List.mem_of_getElem? (i := 54) rfl))) (mvT hZ (hw _ (List.mem_of_getElem? (i := 58) rfl))) (by decide) (backOf (W := 2) (hmH l Z a0 hw [] b19 h19 n0 (by omega)  A19 F20 (by omega)) hZ (hw _ (List.mem_of_getElem? (i := 58) rfl)) (hw _ (List.mem_of_getElem? (i := 57) rfl)) (by decide) (by decide)) (g := (mkF m 33 #[.val (.ref self), .val (.long idv), .second, .val (.ref cid)] [(.ref b19), (.ref b19), (.ref self)])) rfl (by rw [hml]; rfl) (Steps.refl _) (a := b19) (argsL := []) (rest := [(.ref b19), (.ref self)]) (lenOf pd_0 rfl) rfl (by show 2 * 0 + _ ≤ _; exact Nat.le_of_eq rfl) (hb hby d1_33) (fun _ _ => ⟨rfl, e19, (by decide : 4 + 0 ≤ _), (by decide : 40 + 0 ≤ _)⟩)
  dsimp only [Pt.U, Pt.locs, Pt.cells, Pt.slots] at X21 l21 y21 z21 st21 hQ21
  subst l21 y21 z21
  obtain ⟨rfl, Nq21, Kq21, P21_0⟩ := hQ21
  have N21 := Fr.app N18 Nq21
  have z21k : h19.size ≤ T21.heap.size := Kq21.1
  have gz22 : h0.size ≤ b19 := by omega
  have K21 : Keep h0 T21.heap [self] := K19.trans Kq21 (allS (Or.inr gz22) all0)
  refine Comes.go st21 ?_
  have lt_23 : b19 < T21.heap.size := P21_0.lt
  show Comes p e below _ (T21.setTop (mkF m 36 #[.val (.ref self), .val (.long idv), .second, .val (.ref cid)] [(.ref b19), (.ref self)]))
  have F24 : Exa Z T21.heap self "com/example/ferry2/ferry2/store/Session" := (((F15.wr W18).ext E19).keep Kq21)
  have ne25 : self ≠ b19 := by omega
  have F26 : Fld Z T21.heap self "com/example/ferry2/ferry2/store/Session" "deliveries" "Ljava/util/Map;" .null := (((((((P1_4.other W2 (Or.inr (slot_ne (Or.inr (hw _ (List.mem_of_getElem? (i := 81) rfl))) (Or.inl (hw _ (List.mem_of_getElem? (i := 44) rfl))) (by decide) (t := (.object "java/util/Map")) (t' := .long) (by decide) (by decide)))).other W6 (Or.inr (slot_ne (Or.inr (hw _ (List.mem_of_getElem? (i := 81) rfl))) (Or.inl (hw _ (List.mem_of_getElem? (i := 46) rfl))) (by decide) (t := (.object "java/util/Map")) (t' := .long) (by decide) (by decide)))).ext E7).keep Kq12 (ninS ne16 nin0)).other W18 (Or.inr (slot_ne (Or.inr (hw _ (List.mem_of_getElem? (i := 81) rfl))) (Or.inr (hw _ (List.mem_of_getElem? (i := 74) rfl))) (by decide) (t := (.object "java/util/Map")) (t' := (.object "java/util/Map")) (by decide) (by decide)))).ext E19).keep Kq21 (ninS ne25 nin0))
  obtain ⟨T27, h27, X27, e27, W27, st27⟩ := putF X21 hx hZ hown (host := "") (Or.inl (hw _ (List.mem_of_getElem? (i := 80) rfl))) Via.refl rfl F26 F24 (Or.inr ⟨(hw _ (List.mem_of_getElem? (i := 81) rfl)), rfl, hnm⟩) (hw _ (List.mem_of_getElem? (i := 1) rfl)) (ty := (.object "java/util/Map")) (by decide) rfl rfl (g := (mkF m 36 #[.val (.ref self), .val (.long idv), .second, .val (.ref cid)] [(.ref b19), (.ref self)])) rfl rfl (hb hby d1_36)
  have Fw27 := F26.same W27
  have z27 : h27.size = T21.heap.size := W27.size
  have N27 := Fr.snoc X27 N21 gn3
  have K27 : Keep h0 h27 [self] := K21.wr W27 (Or.inl (List.mem_of_getElem? (i := 0) rfl))
  refine Comes.st st27 ?_
  show Comes p e below _ (T27.setTop (mkF m 39 #[.val (.ref self), .val (.long idv), .second, .val (.ref cid)] []))
  refine Comes.st (fun t k => XS.aloadN X27.here hx rfl (hb hby d1_39) rfl rfl k) ?_
  show Comes p e below _ (T27.setTop (mkF m 40 #[.val (.ref self), .val (.long idv), .second, .val (.ref cid)] [(.ref self)]))
  obtain ⟨T28, h28, X28, e28, E28, A28, D28, -, st28⟩ := newO X27 hx hZ hown (hw _ (List.mem_of_getElem? (i := 47) rfl)) (hw _ (List.mem_of_getElem? (i := 48) rfl)) (hw _ (List.mem_of_getElem? (i := 49) rfl)) e27 (g := (mkF m 40 #[.val (.ref self), .val (.long idv), .second, .val (.ref cid)] [(.ref self)])) rfl (hb hby d1_40) (by decide) (by decide)
  obtain ⟨b28, g28⟩ : ∃ z, z = h27.size := ⟨_, rfl⟩
  rw [← g28] at A28 D28 st28
  have z28 : h27.size ≤ h28.size := E28.1
  have lt28 : b28 < h28.size := A28.lt
  have F29 : Fld Z h28 b28 "java/util/HashMap" "loadFactor" "F" (.float 0) := D28 (Or.inr (hw _ (List.mem_of_getElem? (i := 68) rfl))) (ty := .float) (by decide)
  have F30 : Fld Z h28 b28 "java/util/LinkedHashMap" "putMode" "I" (.int (0 : Int32)) := D28 (Or.inl (hw _ (List.mem_of_getElem? (i := 70) rfl))) (ty := .int) (by decide)
  have F31 : Fld Z h28 b28 "java/util/LinkedHashMap" "accessOrder" "Z" (.int (0 : Int32)) := D28 (Or.inr (hw _ (List.mem_of_getElem? (i := 72) rfl))) (ty := .boolean) (by decide)
  have F32 : Fld Z h28 b28 "java/util/HashMap" "threshold" "I" (.int (0 : Int32)) := D28 (Or.inl (hw _ (List.mem_of_getElem? (i := 128) rfl))) (ty := .int) (by decide)
  have K28 : Keep h0 h28 [self] := K27.ext E28
  refine Comes.st st28 ?_
  show Comes p e below _ (T28.setTop (mkF m 43 #[.val (.ref self), .val (.long idv), .second, .val (.ref cid)] [(.ref b28), (.ref self)]))
  refine Comes.st (fun t k => XS.dup X28.here hx rfl (hb hby d1_43) rfl rfl k) ?_
  show Comes p e below _ (T28.setTop (mkF m 44 #[.val (.ref self), .val (.long idv), .second, .val (.ref cid)] [(.ref b28), (.ref b28), (.ref self)]))
  obtain ⟨_, _, ⟨T33, L33, k33, n33⟩, -, X33, ⟨Lc33, hQ33, l33, y33, z33⟩, st33⟩ := X28.specialBack hx (y := (⟨"java/util/LinkedHashMap", "<init>", "()V"⟩ : MethodName)) rfl hown (mvT hZ (hw _ (List.mem_of_getElem? (i := 50) rfl))) (mvT hZ (hw _ (List.mem_of_getElem? (i := 51) rfl))) (mvT hZ (hw _ (List.mem_of_getElem? (i := 52) rfl))) (by decide) (backOf (W := 2) (rm6 l Z a0 hw [] b28 h28 n0 (by omega)  A28 F29 F30 F31 F32 (by omega)) hZ (hw _ (List.mem_of_getElem? (i := 52) rfl)) (hw _ (List.mem_of_getElem? (i := 49) rfl)) (by decide) (by decide)) (g := (mkF m 44 #[.val (.ref self), .val (.long idv), .second, .val (.ref cid)] [(.ref b28), (.ref b28), (.ref self)])) rfl (by rw [hml]; rfl) (Steps.refl _) (a := b28) (argsL := []) (rest := [(.ref b28), (.ref self)]) (lenOf pd_0 rfl) rfl (by show 2 * 0 + _ ≤ _; exact Nat.le_of_eq rfl) (hb hby d1_44) (fun _ _ => ⟨rfl, e28, (by decide : 5 + 0 ≤ _), (by decide : 52 + 0 ≤ _)⟩)
  dsimp only [Pt.U, Pt.locs, Pt.cells, Pt.slots] at X33 l33 y33 z33 st33 hQ33
  subst l33 y33 z33
  obtain ⟨rfl, Nq33, Kq33, P33_0⟩ := hQ33
  have N33 := Fr.app N27 Nq33
  have z33k : h28.size ≤ T33.heap.size := Kq33.1
  have gz34 : h0.size ≤ b28 := by omega
  have K33 : Keep h0 T33.heap [self] := K28.trans Kq33 (allS (Or.inr gz34) all0)
  refine Comes.go st33 ?_
  have lt_35 : b28 < T33.heap.size := P33_0.lt
  show Comes p e below _ (T33.setTop (mkF m 47 #[.val (.ref self), .val (.long idv), .second, .val (.ref cid)] [(.ref b28), (.ref self)]))
  have F36 : Exa Z T33.heap self "com/example/ferry2/ferry2/store/Session" := (((F24.wr W27).ext E28).keep Kq33)
  have ne37 : self ≠ b28 := by omega
  have F38 : Fld Z T33.heap self "com/example/ferry2/ferry2/store/Session" "packetIds" "Ljava/util/Map;" .null := ((((((((((P1_5.other W2 (Or.inr (slot_ne (Or.inr (hw _ (List.mem_of_getElem? (i := 83) rfl))) (Or.inl (hw _ (List.mem_of_getElem? (i := 44) rfl))) (by decide) (t := (.object "java/util/Map")) (t' := .long) (by decide) (by decide)))).other W6 (Or.inr (slot_ne (Or.inr (hw _ (List.mem_of_getElem? (i := 83) rfl))) (Or.inl (hw _ (List.mem_of_getElem? (i := 46) rfl))) (by decide) (t := (.object "java/util/Map")) (t' := .long) (by decide) (by decide)))).ext E7).keep Kq12 (ninS ne16 nin0)).other W18 (Or.inr (slot_ne (Or.inr (hw _ (List.mem_of_getElem? (i := 83) rfl))) (Or.inr (hw _ (List.mem_of_getElem? (i := 74) rfl))) (by decide) (t := (.object "java/util/Map")) (t' := (.object "java/util/Map")) (by decide) (by decide)))).ext E19).keep Kq21 (ninS ne25 nin0)).other W27 (Or.inr (slot_ne (Or.inr (hw _ (List.mem_of_getElem? (i := 83) rfl))) (Or.inr (hw _ (List.mem_of_getElem? (i := 81) rfl))) (by decide) (t := (.object "java/util/Map")) (t' := (.object "java/util/Map")) (by decide) (by decide)))).ext E28).keep Kq33 (ninS ne37 nin0))
  obtain ⟨T39, h39, X39, e39, W39, st39⟩ := putF X33 hx hZ hown (host := "") (Or.inl (hw _ (List.mem_of_getElem? (i := 82) rfl))) Via.refl rfl F38 F36 (Or.inr ⟨(hw _ (List.mem_of_getElem? (i := 83) rfl)), rfl, hnm⟩) (hw _ (List.mem_of_getElem? (i := 1) rfl)) (ty := (.object "java/util/Map")) (by decide) rfl rfl (g := (mkF m 47 #[.val (.ref self), .val (.long idv), .second, .val (.ref cid)] [(.ref b28), (.ref self)])) rfl rfl (hb hby d1_47)
  have Fw39 := F38.same W39
  have z39 : h39.size = T33.heap.size := W39.size
  have N39 := Fr.snoc X39 N33 gn3
  have K39 : Keep h0 h39 [self] := K33.wr W39 (Or.inl (List.mem_of_getElem? (i := 0) rfl))
  refine Comes.st st39 ?_
  show Comes p e below _ (T39.setTop (mkF m 50 #[.val (.ref self), .val (.long idv), .second, .val (.ref cid)] []))
  refine Comes.st (fun t k => XS.aloadN X39.here hx rfl (hb hby d1_50) rfl rfl k) ?_
  show Comes p e below _ (T39.setTop (mkF m 51 #[.val (.ref self), .val (.long idv), .second, .val (.ref cid)] [(.ref self)]))
  obtain ⟨T40, h40, X40, e40, E40, A40, D40, -, st40⟩ := newO X39 hx hZ hown (hw _ (List.mem_of_getElem? (i := 84) rfl)) (hw _ (List.mem_of_getElem? (i := 85) rfl)) (hw _ (List.mem_of_getElem? (i := 86) rfl)) e39 (g := (mkF m 51 #[.val (.ref self), .val (.long idv), .second, .val (.ref cid)] [(.ref self)])) rfl (hb hby d1_51) (by decide) (by decide)
  obtain ⟨b40, g40⟩ : ∃ z, z = h39.size := ⟨_, rfl⟩
  rw [← g40] at A40 D40 st40
  have z40 : h39.size ≤ h40.size := E40.1
  have lt40 : b40 < h40.size := A40.lt
  have F41 : Fld Z h40 b40 "java/util/HashSet" "map" "Ljava/util/HashMap;" .null := D40 (Or.inl (hw _ (List.mem_of_getElem? (i := 130) rfl))) (ty := (.object "java/util/HashMap")) (by decide)
  have K40 : Keep h0 h40 [self] := K39.ext E40
  refine Comes.st st40 ?_
  show Comes p e below _ (T40.setTop (mkF m 54 #[.val (.ref self), .val (.long idv), .second, .val (.ref cid)] [(.ref b40), (.ref self)]))
  refine Comes.st (fun t k => XS.dup X40.here hx rfl (hb hby d1_54) rfl rfl k) ?_
  show Comes p e below _ (T40.setTop (mkF m 55 #[.val (.ref self), .val (.long idv), .second, .val (.ref cid)] [(.ref b40), (.ref b40), (.ref self)]))
  obtain ⟨_, _, ⟨T42, L42, k42, n42⟩, -, X42, ⟨Lc42, hQ42, l42, y42, z42⟩, st42⟩ := X40.specialBack hx (y := (⟨"java/util/LinkedHashSet", "<init>", "()V"⟩ : MethodName)) rfl hown (mvT hZ (hw _ (List.mem_of_getElem? (i := 87) rfl))) (mvT hZ (hw _ (List.mem_of_getElem? (i := 88) rfl))) (mvT hZ (hw _ (List.mem_of_getElem? (i := 89) rfl))) (by decide) (backOf (W := 2) (rm9 l Z a0 hw [] b40 h40 n0 (by omega)  A40 F41 (by omega)) hZ (hw _ (List.mem_of_getElem? (i := 89) rfl)) (hw _ (List.mem_of_getElem? (i := 86) rfl)) (by decide) (by decide)) (g := (mkF m 55 #[.val (.ref self), .val (.long idv), .second, .val (.ref cid)] [(.ref b40), (.ref b40), (.ref self)])) rfl (by rw [hml]; rfl) (Steps.refl _) (a := b40) (argsL := []) (rest := [(.ref b40), (.ref self)]) (lenOf pd_0 rfl) rfl (by show 2 * 0 + _ ≤ _; exact Nat.le_of_eq rfl) (hb hby d1_55) (fun _ _ => ⟨rfl, e40, (by decide : 6 + 1 ≤ _), (by decide : 53 + 12 ≤ _)⟩)
  dsimp only [Pt.U, Pt.locs, Pt.cells, Pt.slots] at X42 l42 y42 z42 st42 hQ42
  subst l42 y42 z42
  obtain ⟨rfl, Nq42, Kq42, P42_0⟩ := hQ42
  have N42 := Fr.app N39 Nq42
  have z42k : h40.size ≤ T42.heap.size := Kq42.1
  have gz43 : h0.size ≤ b40 := by omega
  have K42 : Keep h0 T42.heap [self] := K40.trans Kq42 (allS (Or.inr gz43) all0)
  refine Comes.go st42 ?_
  have lt_44 : b40 < T42.heap.size := P42_0.lt
  show Comes p e below _ (T42.setTop (mkF m 58 #[.val (.ref self), .val (.long idv), .second, .val (.ref cid)] [(.ref b40), (.ref self)]))
  have F45 : Exa Z T42.heap self "com/example/ferry2/ferry2/store/Session" := (((F36.wr W39).ext E40).keep Kq42)
  have ne46 : self ≠ b40 := by omega
  have F47 : Fld Z T42.heap self "com/example/ferry2/ferry2/store/Session" "awaitingCompletion" "Ljava/util/Set;" .null := (((((((((((((P1_6.other W2 (Or.inr (slot_ne (Or.inr (hw _ (List.mem_of_getElem? (i := 132) rfl))) (Or.inl (hw _ (List.mem_of_getElem? (i := 44) rfl))) (by decide) (t := (.object "java/util/Set")) (t' := .long) (by decide) (by decide)))).other W6 (Or.inr (slot_ne (Or.inr (hw _ (List.mem_of_getElem? (i := 132) rfl))) (Or.inl (hw _ (List.mem_of_getElem? (i := 46) rfl))) (by decide) (t := (.object "java/util/Set")) (t' := .long) (by decide) (by decide)))).ext E7).keep Kq12 (ninS ne16 nin0)).other W18 (Or.inr (slot_ne (Or.inr (hw _ (List.mem_of_getElem? (i := 132) rfl))) (Or.inr (hw _ (List.mem_of_getElem? (i := 74) rfl))) (by decide) (t := (.object "java/util/Set")) (t' := (.object "java/util/Map")) (by decide) (by decide)))).ext E19).keep Kq21 (ninS ne25 nin0)).other W27 (Or.inr (slot_ne (Or.inr (hw _ (List.mem_of_getElem? (i := 132) rfl))) (Or.inr (hw _ (List.mem_of_getElem? (i := 81) rfl))) (by decide) (t := (.object "java/util/Set")) (t' := (.object "java/util/Map")) (by decide) (by decide)))).ext E28).keep Kq33 (ninS ne37 nin0)).other W39 (Or.inr (slot_ne (Or.inr (hw _ (List.mem_of_getElem? (i := 132) rfl))) (Or.inr (hw _ (List.mem_of_getElem? (i := 83) rfl))) (by decide) (t := (.object "java/util/Set")) (t' := (.object "java/util/Map")) (by decide) (by decide)))).ext E40).keep Kq42 (ninS ne46 nin0))
  obtain ⟨T48, h48, X48, e48, W48, st48⟩ := putF X42 hx hZ hown (host := "") (Or.inl (hw _ (List.mem_of_getElem? (i := 131) rfl))) Via.refl rfl F47 F45 (Or.inr ⟨(hw _ (List.mem_of_getElem? (i := 132) rfl)), rfl, hnm⟩) (hw _ (List.mem_of_getElem? (i := 1) rfl)) (ty := (.object "java/util/Set")) (by decide) rfl rfl (g := (mkF m 58 #[.val (.ref self), .val (.long idv), .second, .val (.ref cid)] [(.ref b40), (.ref self)])) rfl rfl (hb hby d1_58)
  have Fw48 := F47.same W48
  have z48 : h48.size = T42.heap.size := W48.size
  have N48 := Fr.snoc X48 N42 gn3
  have K48 : Keep h0 h48 [self] := K42.wr W48 (Or.inl (List.mem_of_getElem? (i := 0) rfl))
  refine Comes.st st48 ?_
  show Comes p e below _ (T48.setTop (mkF m 61 #[.val (.ref self), .val (.long idv), .second, .val (.ref cid)] []))
  refine Comes.st (fun t k => XS.aloadN X48.here hx rfl (hb hby d1_61) rfl rfl k) ?_
  show Comes p e below _ (T48.setTop (mkF m 62 #[.val (.ref self), .val (.long idv), .second, .val (.ref cid)] [(.ref self)]))
  obtain ⟨T49, h49, X49, e49, E49, A49, D49, -, st49⟩ := newO X48 hx hZ hown (hw _ (List.mem_of_getElem? (i := 133) rfl)) (hw _ (List.mem_of_getElem? (i := 134) rfl)) (hw _ (List.mem_of_getElem? (i := 95) rfl)) e48 (g := (mkF m 62 #[.val (.ref self), .val (.long idv), .second, .val (.ref cid)] [(.ref self)])) rfl (hb hby d1_62) (by decide) (by decide)
  obtain ⟨b49, g49⟩ : ∃ z, z = h48.size := ⟨_, rfl⟩
  rw [← g49] at A49 D49 st49
  have z49 : h48.size ≤ h49.size := E49.1
  have lt49 : b49 < h49.size := A49.lt
  have F50 : Fld Z h49 b49 "java/util/HashSet" "map" "Ljava/util/HashMap;" .null := D49 (Or.inl (hw _ (List.mem_of_getElem? (i := 143) rfl))) (ty := (.object "java/util/HashMap")) (by decide)
  have K49 : Keep h0 h49 [self] := K48.ext E49
  refine Comes.st st49 ?_
  show Comes p e below _ (T49.setTop (mkF m 65 #[.val (.ref self), .val (.long idv), .second, .val (.ref cid)] [(.ref b49), (.ref self)]))
  refine Comes.st (fun t k => XS.dup X49.here hx rfl (hb hby d1_65) rfl rfl k) ?_
  show Comes p e below _ (T49.setTop (mkF m 66 #[.val (.ref self), .val (.long idv), .second, .val (.ref cid)] [(.ref b49), (.ref b49), (.ref self)]))
  obtain ⟨_, _, ⟨T51, L51, k51, n51⟩, -, X51, ⟨Lc51, hQ51, l51, y51, z51⟩, st51⟩ := X49.specialBack hx (y := (⟨"java/util/HashSet", "<init>", "()V"⟩ : MethodName)) rfl hown (mvT hZ (hw _ (List.mem_of_getElem? (i := 135) rfl))) (mvT hZ (hw _ (List.mem_of_getElem? (i := 136) rfl))) (mvT hZ (hw _ (List.mem_of_getElem? (i := 137) rfl))) (by decide) (backOf (W := 2) (rm17 l Z a0 hw [] b49 h49 n0 (by omega)  A49 F50 (by omega)) hZ (hw _ (List.mem_of_getElem? (i := 137) rfl)) (hw _ (List.mem_of_getElem? (i := 95) rfl)) (by decide) (by decide)) (g := (mkF m 66 #[.val (.ref self), .val (.long idv), .second, .val (.ref cid)] [(.ref b49), (.ref b49), (.ref self)])) rfl (by rw [hml]; rfl) (Steps.refl _) (a := b49) (argsL := []) (rest := [(.ref b49), (.ref self)]) (lenOf pd_0 rfl) rfl (by show 2 * 0 + _ ≤ _; exact Nat.le_of_eq rfl) (hb hby d1_66) (fun _ _ => ⟨rfl, e49, (by decide : 8 + 1 ≤ _), (by decide : 66 + 8 ≤ _)⟩)
  dsimp only [Pt.U, Pt.locs, Pt.cells, Pt.slots] at X51 l51 y51 z51 st51 hQ51
  subst l51 y51 z51
  obtain ⟨rfl, Nq51, Kq51, P51_0⟩ := hQ51
  have N51 := Fr.app N48 Nq51
  have z51k : h49.size ≤ T51.heap.size := Kq51.1
  have gz52 : h0.size ≤ b49 := by omega
  have K51 : Keep h0 T51.heap [self] := K49.trans Kq51 (allS (Or.inr gz52) all0)
  refine Comes.go st51 ?_
  have lt_53 : b49 < T51.heap.size := P51_0.lt
  show Comes p e below _ (T51.setTop (mkF m 69 #[.val (.ref self), .val (.long idv), .second, .val (.ref cid)] [(.ref b49), (.ref self)]))
  have F54 : Exa Z T51.heap self "com/example/ferry2/ferry2/store/Session" := (((F45.wr W48).ext E49).keep Kq51)
  have ne55 : self ≠ b49 := by omega
  have F56 : Fld Z T51.heap self "com/example/ferry2/ferry2/store/Session" "awaitingRelease" "Ljava/util/Set;" .null := ((((((((((((((((P1_7.other W2 (Or.inr (slot_ne (Or.inr (hw _ (List.mem_of_getElem? (i := 145) rfl))) (Or.inl (hw _ (List.mem_of_getElem? (i := 44) rfl))) (by decide) (t := (.object "java/util/Set")) (t' := .long) (by decide) (by decide)))).other W6 (Or.inr (slot_ne (Or.inr (hw _ (List.mem_of_getElem? (i := 145) rfl))) (Or.inl (hw _ (List.mem_of_getElem? (i := 46) rfl))) (by decide) (t := (.object "java/util/Set")) (t' := .long) (by decide) (by decide)))).ext E7).keep Kq12 (ninS ne16 nin0)).other W18 (Or.inr (slot_ne (Or.inr (hw _ (List.mem_of_getElem? (i := 145) rfl))) (Or.inr (hw _ (List.mem_of_getElem? (i := 74) rfl))) (by decide) (t := (.object "java/util/Set")) (t' := (.object "java/util/Map")) (by decide) (by decide)))).ext E19).keep Kq21 (ninS ne25 nin0)).other W27 (Or.inr (slot_ne (Or.inr (hw _ (List.mem_of_getElem? (i := 145) rfl))) (Or.inr (hw _ (List.mem_of_getElem? (i := 81) rfl))) (by decide) (t := (.object "java/util/Set")) (t' := (.object "java/util/Map")) (by decide) (by decide)))).ext E28).keep Kq33 (ninS ne37 nin0)).other W39 (Or.inr (slot_ne (Or.inr (hw _ (List.mem_of_getElem? (i := 145) rfl))) (Or.inr (hw _ (List.mem_of_getElem? (i := 83) rfl))) (by decide) (t := (.object "java/util/Set")) (t' := (.object "java/util/Map")) (by decide) (by decide)))).ext E40).keep Kq42 (ninS ne46 nin0)).other W48 (Or.inr (slot_ne (Or.inr (hw _ (List.mem_of_getElem? (i := 145) rfl))) (Or.inr (hw _ (List.mem_of_getElem? (i := 132) rfl))) (by decide) (t := (.object "java/util/Set")) (t' := (.object "java/util/Set")) (by decide) (by decide)))).ext E49).keep Kq51 (ninS ne55 nin0))
  obtain ⟨T57, h57, X57, e57, W57, st57⟩ := putF X51 hx hZ hown (host := "") (Or.inl (hw _ (List.mem_of_getElem? (i := 144) rfl))) Via.refl rfl F56 F54 (Or.inr ⟨(hw _ (List.mem_of_getElem? (i := 145) rfl)), rfl, hnm⟩) (hw _ (List.mem_of_getElem? (i := 1) rfl)) (ty := (.object "java/util/Set")) (by decide) rfl rfl (g := (mkF m 69 #[.val (.ref self), .val (.long idv), .second, .val (.ref cid)] [(.ref b49), (.ref self)])) rfl rfl (hb hby d1_69)
  have Fw57 := F56.same W57
  have z57 : h57.size = T51.heap.size := W57.size
  have N57 := Fr.snoc X57 N51 gn3
  have K57 : Keep h0 h57 [self] := K51.wr W57 (Or.inl (List.mem_of_getElem? (i := 0) rfl))
  refine Comes.st st57 ?_
  show Comes p e below _ (T57.setTop (mkF m 72 #[.val (.ref self), .val (.long idv), .second, .val (.ref cid)] []))
  refine Comes.st (fun t k => XS.aloadN X57.here hx rfl (hb hby d1_72) rfl rfl (XS.aloadN X57.here hx rfl (hb hby d1_73) rfl rfl k)) ?_
  show Comes p e below _ (T57.setTop (mkF m 74 #[.val (.ref self), .val (.long idv), .second, .val (.ref cid)] [(.ref cid), (.ref self)]))
  have F58 : Exa Z h57 self "com/example/ferry2/ferry2/store/Session" := (F54.wr W57)
  have F59 : Fld Z h57 self "com/example/ferry2/ferry2/store/Session" "clientId" "Ljava/lang/String;" .null := (((((((((((((((((P1_8.other W2 (Or.inr (slot_ne (Or.inr (hw _ (List.mem_of_getElem? (i := 147) rfl))) (Or.inl (hw _ (List.mem_of_getElem? (i := 44) rfl))) (by decide) (t := (.object "java/lang/String")) (t' := .long) (by decide) (by decide)))).other W6 (Or.inr (slot_ne (Or.inr (hw _ (List.mem_of_getElem? (i := 147) rfl))) (Or.inl (hw _ (List.mem_of_getElem? (i := 46) rfl))) (by decide) (t := (.object "java/lang/String")) (t' := .long) (by decide) (by decide)))).ext E7).keep Kq12 (ninS ne16 nin0)).other W18 (Or.inr (slot_ne (Or.inr (hw _ (List.mem_of_getElem? (i := 147) rfl))) (Or.inr (hw _ (List.mem_of_getElem? (i := 74) rfl))) (by decide) (t := (.object "java/lang/String")) (t' := (.object "java/util/Map")) (by decide) (by decide)))).ext E19).keep Kq21 (ninS ne25 nin0)).other W27 (Or.inr (slot_ne (Or.inr (hw _ (List.mem_of_getElem? (i := 147) rfl))) (Or.inr (hw _ (List.mem_of_getElem? (i := 81) rfl))) (by decide) (t := (.object "java/lang/String")) (t' := (.object "java/util/Map")) (by decide) (by decide)))).ext E28).keep Kq33 (ninS ne37 nin0)).other W39 (Or.inr (slot_ne (Or.inr (hw _ (List.mem_of_getElem? (i := 147) rfl))) (Or.inr (hw _ (List.mem_of_getElem? (i := 83) rfl))) (by decide) (t := (.object "java/lang/String")) (t' := (.object "java/util/Map")) (by decide) (by decide)))).ext E40).keep Kq42 (ninS ne46 nin0)).other W48 (Or.inr (slot_ne (Or.inr (hw _ (List.mem_of_getElem? (i := 147) rfl))) (Or.inr (hw _ (List.mem_of_getElem? (i := 132) rfl))) (by decide) (t := (.object "java/lang/String")) (t' := (.object "java/util/Set")) (by decide) (by decide)))).ext E49).keep Kq51 (ninS ne55 nin0)).other W57 (Or.inr (slot_ne (Or.inr (hw _ (List.mem_of_getElem? (i := 147) rfl))) (Or.inr (hw _ (List.mem_of_getElem? (i := 145) rfl))) (by decide) (t := (.object "java/lang/String")) (t' := (.object "java/util/Set")) (by decide) (by decide))))
  obtain ⟨T60, h60, X60, e60, W60, st60⟩ := putF X57 hx hZ hown (host := "") (Or.inl (hw _ (List.mem_of_getElem? (i := 146) rfl))) Via.refl e57 F59 F58 (Or.inr ⟨(hw _ (List.mem_of_getElem? (i := 147) rfl)), rfl, hnm⟩) (hw _ (List.mem_of_getElem? (i := 1) rfl)) (ty := (.object "java/lang/String")) (by decide) rfl rfl (g := (mkF m 74 #[.val (.ref self), .val (.long idv), .second, .val (.ref cid)] [(.ref cid), (.ref self)])) rfl rfl (hb hby d1_74)
  have Fw60 := F59.same W60
  have z60 : h60.size = h57.size := W60.size
  have N60 := Fr.snoc X60 N57 gn3
  have K60 : Keep h0 h60 [self] := K57.wr W60 (Or.inl (List.mem_of_getElem? (i := 0) rfl))
  refine Comes.st st60 ?_
  show Comes p e below _ (T60.setTop (mkF m 77 #[.val (.ref self), .val (.long idv), .second, .val (.ref cid)] []))
  have F61 : Exa Z h60 self "com/example/ferry2/ferry2/store/Session" := (F58.wr W60)
  have F62 : Fld Z h60 self "com/example/ferry2/ferry2/store/Session" "expiryInterval" "J" (.long (4294967295 : Int64)) := (((((((((((((((((Fw2.other W6 (Or.inr (slot_ne (Or.inl (hw _ (List.mem_of_getElem? (i := 44) rfl))) (Or.inl (hw _ (List.mem_of_getElem? (i := 46) rfl))) (by decide) (t := .long) (t' := .long) (by decide) (by decide)))).ext E7).keep Kq12 (ninS ne16 nin0)).other W18 (Or.inr (slot_ne (Or.inl (hw _ (List.mem_of_getElem? (i := 44) rfl))) (Or.inr (hw _ (List.mem_of_getElem? (i := 74) rfl))) (by decide) (t := .long) (t' := (.object "java/util/Map")) (by decide) (by decide)))).ext E19).keep Kq21 (ninS ne25 nin0)).other W27 (Or.inr (slot_ne (Or.inl (hw _ (List.mem_of_getElem? (i := 44) rfl))) (Or.inr (hw _ (List.mem_of_getElem? (i := 81) rfl))) (by decide) (t := .long) (t' := (.object "java/util/Map")) (by decide) (by decide)))).ext E28).keep Kq33 (ninS ne37 nin0)).other W39 (Or.inr (slot_ne (Or.inl (hw _ (List.mem_of_getElem? (i := 44) rfl))) (Or.inr (hw _ (List.mem_of_getElem? (i := 83) rfl))) (by decide) (t := .long) (t' := (.object "java/util/Map")) (by decide) (by decide)))).ext E40).keep Kq42 (ninS ne46 nin0)).other W48 (Or.inr (slot_ne (Or.inl (hw _ (List.mem_of_getElem? (i := 44) rfl))) (Or.inr (hw _ (List.mem_of_getElem? (i := 132) rfl))) (by decide) (t := .long) (t' := (.object "java/util/Set")) (by decide) (by decide)))).ext E49).keep Kq51 (ninS ne55 nin0)).other W57 (Or.inr (slot_ne (Or.inl (hw _ (List.mem_of_getElem? (i := 44) rfl))) (Or.inr (hw _ (List.mem_of_getElem? (i := 145) rfl))) (by decide) (t := .long) (t' := (.object "java/util/Set")) (by decide) (by decide)))).other W60 (Or.inr (slot_ne (Or.inl (hw _ (List.mem_of_getElem? (i := 44) rfl))) (Or.inr (hw _ (List.mem_of_getElem? (i := 147) rfl))) (by decide) (t := .long) (t' := (.object "java/lang/String")) (by decide) (by decide))))
  have F63 : Fld Z h60 self "com/example/ferry2/ferry2/store/Session" "awaySince" "J" (.long (0 : Int64)) := ((((((((((((((((Fw6.ext E7).keep Kq12 (ninS ne16 nin0)).other W18 (Or.inr (slot_ne (Or.inl (hw _ (List.mem_of_getElem? (i := 46) rfl))) (Or.inr (hw _ (List.mem_of_getElem? (i := 74) rfl))) (by decide) (t := .long) (t' := (.object "java/util/Map")) (by decide) (by decide)))).ext E19).keep Kq21 (ninS ne25 nin0)).other W27 (Or.inr (slot_ne (Or.inl (hw _ (List.mem_of_getElem? (i := 46) rfl))) (Or.inr (hw _ (List.mem_of_getElem? (i := 81) rfl))) (by decide) (t := .long) (t' := (.object "java/util/Map")) (by decide) (by decide)))).ext E28).keep Kq33 (ninS ne37 nin0)).other W39 (Or.inr (slot_ne (Or.inl (hw _ (List.mem_of_getElem? (i := 46) rfl))) (Or.inr (hw _ (List.mem_of_getElem? (i := 83) rfl))) (by decide) (t := .long) (t' := (.object "java/util/Map")) (by decide) (by decide)))).ext E40).keep Kq42 (ninS ne46 nin0)).other W48 (Or.inr (slot_ne (Or.inl (hw _ (List.mem_of_getElem? (i := 46) rfl))) (Or.inr (hw _ (List.mem_of_getElem? (i := 132) rfl))) (by decide) (t := .long) (t' := (.object "java/util/Set")) (by decide) (by decide)))).ext E49).keep Kq51 (ninS ne55 nin0)).other W57 (Or.inr (slot_ne (Or.inl (hw _ (List.mem_of_getElem? (i := 46) rfl))) (Or.inr (hw _ (List.mem_of_getElem? (i := 145) rfl))) (by decide) (t := .long) (t' := (.object "java/util/Set")) (by decide) (by decide)))).other W60 (Or.inr (slot_ne (Or.inl (hw _ (List.mem_of_getElem? (i := 46) rfl))) (Or.inr (hw _ (List.mem_of_getElem? (i := 147) rfl))) (by decide) (t := .long) (t' := (.object "java/lang/String")) (by decide) (by decide))))
  exact Comes.ret0 X60 hx Bd.returns hlk (hb hby d1_77) e60 ⟨rfl, N60, K60, F61, F62, F63⟩ (by decide) (by decide)
def Q_rm18 (Z : State) (self : Nat) (iv : Int64) (aw : Int64) (h0 : Heap) (n0 : Nat) (v : Option Value) (h : Heap) (L : List Loc) : Prop := ∃ (r : Int64), (v = some (.long r)) ∧ (Fr n0 L) ∧ (h = h0) ∧ ((iv = (4294967295 : Int64) ∧ r = (9223372036854775807 : Int64)) ∨ (¬ iv = (4294967295 : Int64) ∧ aw = (0 : Int64) ∧ r = (9223372036854775807 : Int64)) ∨ (¬ iv = (4294967295 : Int64) ∧ ¬ aw = (0 : Int64) ∧ r = (aw + (iv * (1000 : Int64)))))
set_option maxRecDepth 65536 in
set_option maxHeartbeats 40000000 in
theorem rm18 (l : Launch) (Z : State) (a0 : Array Value) (hw : ∀ d ∈ tables_1, d.before a0 Z = true) (ws : List Jvm.Cond) (self : Nat) (iv : Int64) (aw : Int64) (h0 : Heap) (n0 : Nat) (Z0 : n0 ≤ h0.size) (G0 : Fld Z h0 self "com/example/ferry2/ferry2/store/Session" "expiryInterval" "J" (.long iv)) (G1 : Fld Z h0 self "com/example/ferry2/ferry2/store/Session" "awaySince" "J" (.long aw)) :
    MetFree l (⟨"com/example/ferry2/ferry2/store/Session", "expiry", "()J"⟩ : MethodName) (head1 (Jvm.Cond.code (⟨"com/example/ferry2/ferry2/store/Session", "expiry", "()J"⟩ : MethodName) prog_43_method_5_code 1 (some .long) :: ws) ({ frames := 0, cells := 0, slots := 0, locals := 0 } : Room)) (fun a U => a = #[(.ref self)] ∧ Z.Warmed39 U.vm ∧ U.heap = h0) (fun _ _ _ _ _ => True) (fun _ U o U' => ∃ v L, o = .returned v ∧ Q_rm18 Z self iv aw h0 n0 v U'.heap L ∧ FrameEnd U o U' L ({ frames := 0, cells := 0, slots := 0, locals := 0 } : Room).cells ({ frames := 0, cells := 0, slots := 0, locals := 0 } : Room).slots) := by
  refine MetFree.of_bodySF (plainFor_of_name pn_18) hisR ?_
  intro p e s m args below meth c s₁ Bd hml0 hP hK
  obtain ⟨rfl, hZ, hh⟩ := hP
  have hx := Bd.exec
  have hby := Bd.bytes
  have hml : c.maxLocals = 1 := hml0
  have hown : s.vm.findClass "com/example/ferry2/ferry2/store/Session" = some m.cls := findClass_of_methodNamed Bd.named
  have hnm := (name_of_methodNamed Bd.named Bd.method).1
  have hlk : meth.locks = false := Bd.notSynchronized
  have X0 : Stand p l e ({ frames := 0, cells := 0, slots := 0, locals := 0 } : Room) s m #[(.ref self)] below meth c s₁ [] 0 0 := Stand.of_body Bd
  have e0 : s₁.heap = h0 := by rw [← hh, Bd.state]; rfl
  have N0 := Fr.nil n0
  refine Comes.out (Q := Q_rm18 Z self iv aw h0 n0) (kc := ({ frames := 0, cells := 0, slots := 0, locals := 0 } : Room).cells) (ks := ({ frames := 0, cells := 0, slots := 0, locals := 0 } : Room).slots) ?_
  refine Comes.cast (ef_rm18 m self) ?_
  have lt_self : self < h0.size := G0.lt
  show Comes p e below _ (s₁.setTop (mkF m 0 #[.val (.ref self)] []))
  refine Comes.st (fun t k => XS.aloadN X0.here hx rfl (hb hby d18_0) rfl rfl k) ?_
  show Comes p e below _ (s₁.setTop (mkF m 1 #[.val (.ref self)] [(.ref self)]))
  obtain ⟨T1, X1, e1, st1⟩ := getF X0 hx hZ hown (host := "") (Or.inl (hw _ (List.mem_of_getElem? (i := 43) rfl))) Via.refl e0 G0 (g := (mkF m 1 #[.val (.ref self)] [(.ref self)])) rfl rfl (hb hby d18_1)
  refine Comes.st st1 ?_
  show Comes p e below _ (T1.setTop (mkF m 4 #[.val (.ref self)] [(.long iv)]))
  refine Comes.st (fun t k => X1.ldc2Long hx hown (mvT hZ (hw _ (List.mem_of_getElem? (i := 42) rfl))) (g := (mkF m 4 #[.val (.ref self)] [(.long iv)])) rfl (hb hby d18_4) _ (XS.lcmp X1.here hx rfl (hb hby d18_7) rfl k)) ?_
  show Comes p e below _ (T1.setTop (mkF m 8 #[.val (.ref self)] [(.int (lcmpW iv (4294967295 : Int64)))]))
  by_cases hc8_2 : iv = (4294967295 : Int64)
  · refine Comes.st (fun t k => XS.ifYes X1.here hx rfl (pc0 := 8) (pc' := 20) rfl (hb hby d18_8) rfl ((if0 _ _).trans (teq ((lw_eq _ _).mpr hc8_2)).1) (by decide) (by decide) (X1.ldc2Long hx hown (mvT hZ (hw _ (List.mem_of_getElem? (i := 153) rfl))) (g := (mkF m 20 #[.val (.ref self)] [])) rfl (hb hby d18_20) _ k)) ?_
    show Comes p e below _ (T1.setTop (mkF m 23 #[.val (.ref self)] [(.long (9223372036854775807 : Int64))]))
    exact Comes.retV X1 hx Bd.returns rfl (Or.inr (Or.inl ⟨rfl, rfl, _, rfl⟩)) hlk (hb hby d18_23) e1 ⟨(9223372036854775807 : Int64), rfl, N0, rfl, (by first | exact Or.inl ⟨by first | assumption | rfl | decide, rfl⟩ | exact Or.inr (Or.inl ⟨by first | assumption | decide, by first | assumption | rfl, rfl⟩) | exact Or.inr (Or.inr ⟨by assumption, by assumption, rfl⟩))⟩ (by decide) (by decide)
  · refine Comes.st (fun t k => XS.ifNo X1.here hx rfl (hb hby d18_8) rfl ((if0 _ _).trans (feq (fun q => hc8_2 ((lw_eq _ _).mp q))).1) (XS.aloadN X1.here hx rfl (hb hby d18_11) rfl rfl k)) ?_
    show Comes p e below _ (T1.setTop (mkF m 12 #[.val (.ref self)] [(.ref self)]))
    obtain ⟨T3, X3, e3, st3⟩ := getF X1 hx hZ hown (host := "") (Or.inl (hw _ (List.mem_of_getElem? (i := 45) rfl))) Via.refl e1 G1 (g := (mkF m 12 #[.val (.ref self)] [(.ref self)])) rfl rfl (hb hby d18_12)
    refine Comes.st st3 ?_
    show Comes p e below _ (T3.setTop (mkF m 15 #[.val (.ref self)] [(.long aw)]))
    refine Comes.st (fun t k => XS.lconst X3.here hx rfl (hb hby d18_15) (XS.lcmp X3.here hx rfl (hb hby d18_16) rfl k)) ?_
    show Comes p e below _ (T3.setTop (mkF m 17 #[.val (.ref self)] [(.int (lcmpW aw (0 : Int64)))]))
    by_cases hc17_4 : aw = (0 : Int64)
    · refine Comes.st (fun t k => XS.ifNo X3.here hx rfl (hb hby d18_17) rfl ((if0 _ _).trans (teq ((lw_eq _ _).mpr hc17_4)).2) (X3.ldc2Long hx hown (mvT hZ (hw _ (List.mem_of_getElem? (i := 153) rfl))) (g := (mkF m 20 #[.val (.ref self)] [])) rfl (hb hby d18_20) _ k)) ?_
      show Comes p e below _ (T3.setTop (mkF m 23 #[.val (.ref self)] [(.long (9223372036854775807 : Int64))]))
      exact Comes.retV X3 hx Bd.returns rfl (Or.inr (Or.inl ⟨rfl, rfl, _, rfl⟩)) hlk (hb hby d18_23) e3 ⟨(9223372036854775807 : Int64), rfl, N0, rfl, (by first | exact Or.inl ⟨by first | assumption | rfl | decide, rfl⟩ | exact Or.inr (Or.inl ⟨by first | assumption | decide, by first | assumption | rfl, rfl⟩) | exact Or.inr (Or.inr ⟨by assumption, by assumption, rfl⟩))⟩ (by decide) (by decide)
    · refine Comes.st (fun t k => XS.ifYes X3.here hx rfl (pc0 := 17) (pc' := 24) rfl (hb hby d18_17) rfl ((if0 _ _).trans (feq (fun q => hc17_4 ((lw_eq _ _).mp q))).2) (by decide) (by decide) (XS.aloadN X3.here hx rfl (hb hby d18_24) rfl rfl k)) ?_
      show Comes p e below _ (T3.setTop (mkF m 25 #[.val (.ref self)] [(.ref self)]))
      obtain ⟨T5, X5, e5, st5⟩ := getF X3 hx hZ hown (host := "") (Or.inl (hw _ (List.mem_of_getElem? (i := 45) rfl))) Via.refl e3 G1 (g := (mkF m 25 #[.val (.ref self)] [(.ref self)])) rfl rfl (hb hby d18_25)
      refine Comes.st st5 ?_
      show Comes p e below _ (T5.setTop (mkF m 28 #[.val (.ref self)] [(.long aw)]))
      refine Comes.st (fun t k => XS.aloadN X5.here hx rfl (hb hby d18_28) rfl rfl k) ?_
      show Comes p e below _ (T5.setTop (mkF m 29 #[.val (.ref self)] [(.ref self), (.long aw)]))
      obtain ⟨T6, X6, e6, st6⟩ := getF X5 hx hZ hown (host := "") (Or.inl (hw _ (List.mem_of_getElem? (i := 43) rfl))) Via.refl e5 G0 (g := (mkF m 29 #[.val (.ref self)] [(.ref self), (.long aw)])) rfl rfl (hb hby d18_29)
      refine Comes.st st6 ?_
      show Comes p e below _ (T6.setTop (mkF m 32 #[.val (.ref self)] [(.long iv), (.long aw)]))
      refine Comes.st (fun t k => X6.ldc2Long hx hown (mvT hZ (hw _ (List.mem_of_getElem? (i := 160) rfl))) (g := (mkF m 32 #[.val (.ref self)] [(.long iv), (.long aw)])) rfl (hb hby d18_32) _ (XS.lmul X6.here hx rfl (hb hby d18_35) rfl (XS.ladd X6.here hx rfl (hb hby d18_36) rfl k))) ?_
      show Comes p e below _ (T6.setTop (mkF m 37 #[.val (.ref self)] [(.long (aw + (iv * (1000 : Int64))))]))
      exact Comes.retV X6 hx Bd.returns rfl (Or.inr (Or.inl ⟨rfl, rfl, _, rfl⟩)) hlk (hb hby d18_37) e6 ⟨(aw + (iv * (1000 : Int64))), rfl, N0, rfl, (by first | exact Or.inl ⟨by first | assumption | rfl | decide, rfl⟩ | exact Or.inr (Or.inl ⟨by first | assumption | decide, by first | assumption | rfl, rfl⟩) | exact Or.inr (Or.inr ⟨by assumption, by assumption, rfl⟩))⟩ (by decide) (by decide)
theorem own_exp (aw iv : Int64) (h1 : 0 ≤ aw.toInt ∧ aw.toInt < 4611686018427387904) (h2 : 0 ≤ iv.toInt ∧ iv.toInt < 4294967296) : (aw + (iv * (1000 : Int64))).toInt = aw.toInt + iv.toInt * 1000 := by
  have a := c_lmul iv 1000; have b := rng64 (iv * 1000); have c := c_ladd aw (iv * 1000); have d := rng64 (aw + iv * 1000); have e : (1000 : Int64).toInt = 1000 := by decide
  rw [e] at a
  have q : (iv * 1000).toInt = iv.toInt * 1000 := by omega
  omega
theorem own_expl (aw : Int64) (h1 : 0 ≤ aw.toInt ∧ aw.toInt < 4611686018427387904) : (aw + (4294967294000 : Int64)).toInt = aw.toInt + 4294967294000 := by
  have c := c_ladd aw 4294967294000; have d := rng64 (aw + 4294967294000); have e : (4294967294000 : Int64).toInt = 4294967294000 := by decide
  rw [e] at c
  omega
theorem own_l1 {r aw : Int64} (h : 0 ≤ aw.toInt ∧ aw.toInt < 4611686018427387904) (hc : r = (aw + (4294967294000 : Int64))) : ¬ (r < aw) ∧ ¬ (r = (9223372036854775807 : Int64)) := by
  have z := own_expl aw h
  rw [hc]
  constructor
  · rw [Int64.lt_iff_toInt_lt, z]; omega
  · intro q; have x := congrArg Int64.toInt q; rw [show (9223372036854775807 : Int64).toInt = 9223372036854775807 from by decide, z] at x; omega
theorem own_l2 {r aw iv v : Int64} (h : 0 ≤ aw.toInt ∧ aw.toInt < 4611686018427387904) (h2 : 0 ≤ iv.toInt ∧ iv.toInt < 4294967296) (hv : iv * (1000 : Int64) = v) (hc : r = (aw + v)) : ¬ (r < aw) ∧ ¬ (r = (9223372036854775807 : Int64)) := by
  have z := own_exp aw iv h h2
  rw [hc, ← hv]
  constructor
  · rw [Int64.lt_iff_toInt_lt, z]; omega
  · intro q; have x := congrArg Int64.toInt q; rw [show (9223372036854775807 : Int64).toInt = 9223372036854775807 from by decide, z] at x; omega
theorem own_m32 {x v : Int64} (h : x &&& (4294967295 : Int64) = v) : 0 ≤ v.toInt ∧ v.toInt < 4294967296 := by
  have a := c_maskL x 4294967295 32 (by decide) (by decide); rw [h] at a; omega
theorem own_m62 {x v : Int64} (h : x &&& (4611686018427387903 : Int64) = v) : 0 ≤ v.toInt ∧ v.toInt < 4611686018427387904 := by
  have a := c_maskL x 4611686018427387903 62 (by decide) (by decide); rw [h] at a; omega
def Q_rm0 (Z : State) (qid : Int64) (qa : Int64) (qi : Int64) (fl : Int32) (h0 : Heap) (n0 : Nat) (v : Option Value) (h : Heap) (L : List Loc) : Prop := (v = some (.int (1 : Int32))) ∧ (Fr n0 L)
set_option maxRecDepth 65536 in
set_option maxHeartbeats 40000000 in
theorem rm0 (l : Launch) (Z : State) (a0 : Array Value) (hw : ∀ d ∈ tables_1, d.before a0 Z = true) (ws : List Jvm.Cond) (qid : Int64) (qa : Int64) (qi : Int64) (fl : Int32) (h0 : Heap) (n0 : Nat) (Z0 : n0 ≤ h0.size) :
    MetFree l x (head1 (Jvm.Cond.code x code maxLocals ret :: ws) room_1) (fun a U => a = #[(.long qid), (.long qa), (.long qi), (.int fl)] ∧ Z.Warmed39 U.vm ∧ U.heap = h0) (fun _ _ _ _ _ => True) (fun _ U o U' => ∃ v L, o = .returned v ∧ Q_rm0 Z qid qa qi fl h0 n0 v U'.heap L ∧ ReturnedEndW U o U' L room_1.cells room_1.slots) := by
  refine MetFree.of_bodySF (plainFor_of_name pn_0) hisR ?_
  intro p e s m args below meth c s₁ Bd hml0 hP hK
  obtain ⟨rfl, hZ, hh⟩ := hP
  have hx := Bd.exec
  have hby := Bd.bytes
  have hml : c.maxLocals = 19 := hml0
  have hown : s.vm.findClass "com/example/ferry2/ferry2/store/SessionExpiryPinLaw" = some m.cls := findClass_of_methodNamed Bd.named
  have hnm := (name_of_methodNamed Bd.named Bd.method).1
  have hlk : meth.locks = false := Bd.notSynchronized
  have X0 : Stand p l e room_1 s m #[(.long qid), (.long qa), (.long qi), (.int fl)] below meth c s₁ [] 0 0 := Stand.of_body Bd
  have e0 : s₁.heap = h0 := by rw [← hh, Bd.state]; rfl
  have N0 := Fr.nil n0
  have hS0 : s.Since s.vm 0 := (State.WarmedH.refl s).since 0
  refine Comes.outW (Q := Q_rm0 Z qid qa qi fl h0 n0) (kc := room_1.cells) (ks := room_1.slots) ?_
  refine Comes.cast (ef_rm0 m qid qa qi fl) ?_
  show Comes p e below _ (s₁.setTop (mkF m 0 #[.val (.long qid), .second, .val (.long qa), .second, .val (.long qi), .second, .val (.int fl), .unset, .unset, .unset, .unset, .unset, .unset, .unset, .unset, .unset, .unset, .unset, .unset] []))
  obtain ⟨T1, h1, X1, e1, E1, A1, D1, -, st1⟩ := newO X0 hx hZ hown (hw _ (List.mem_of_getElem? (i := 0) rfl)) (hw _ (List.mem_of_getElem? (i := 1) rfl)) (hw _ (List.mem_of_getElem? (i := 2) rfl)) e0 (g := (mkF m 0 #[.val (.long qid), .second, .val (.long qa), .second, .val (.long qi), .second, .val (.int fl), .unset, .unset, .unset, .unset, .unset, .unset, .unset, .unset, .unset, .unset, .unset, .unset] [])) rfl (hb hby at_0) (by decide) (by decide)
  obtain ⟨b1, g1⟩ : ∃ z, z = h0.size := ⟨_, rfl⟩
  rw [← g1] at A1 D1 st1
  have z1 : h0.size ≤ h1.size := E1.1
  have lt1 : b1 < h1.size := A1.lt
  have F2 : Fld Z h1 b1 "com/example/ferry2/ferry2/store/Endpoint" "pending" "Lcom/example/ferry2/ferry2/store/PendingMessages;" .null := D1 (Or.inr (hw _ (List.mem_of_getElem? (i := 39) rfl))) (ty := (.object "com/example/ferry2/ferry2/store/PendingMessages")) (by decide)
  have F3 : Fld Z h1 b1 "com/example/ferry2/ferry2/store/Endpoint" "id" "J" (.long (0 : Int64)) := D1 (Or.inr (hw _ (List.mem_of_getElem? (i := 41) rfl))) (ty := .long) (by decide)
  have F4 : Fld Z h1 b1 "com/example/ferry2/ferry2/store/Session" "expiryInterval" "J" (.long (0 : Int64)) := D1 (Or.inl (hw _ (List.mem_of_getElem? (i := 44) rfl))) (ty := .long) (by decide)
  have F5 : Fld Z h1 b1 "com/example/ferry2/ferry2/store/Session" "awaySince" "J" (.long (0 : Int64)) := D1 (Or.inl (hw _ (List.mem_of_getElem? (i := 46) rfl))) (ty := .long) (by decide)
  have F6 : Fld Z h1 b1 "com/example/ferry2/ferry2/store/Session" "subscriptions" "Ljava/util/Map;" .null := D1 (Or.inr (hw _ (List.mem_of_getElem? (i := 74) rfl))) (ty := (.object "java/util/Map")) (by decide)
  have F7 : Fld Z h1 b1 "com/example/ferry2/ferry2/store/Session" "deliveries" "Ljava/util/Map;" .null := D1 (Or.inr (hw _ (List.mem_of_getElem? (i := 81) rfl))) (ty := (.object "java/util/Map")) (by decide)
  have F8 : Fld Z h1 b1 "com/example/ferry2/ferry2/store/Session" "packetIds" "Ljava/util/Map;" .null := D1 (Or.inr (hw _ (List.mem_of_getElem? (i := 83) rfl))) (ty := (.object "java/util/Map")) (by decide)
  have F9 : Fld Z h1 b1 "com/example/ferry2/ferry2/store/Session" "awaitingCompletion" "Ljava/util/Set;" .null := D1 (Or.inr (hw _ (List.mem_of_getElem? (i := 132) rfl))) (ty := (.object "java/util/Set")) (by decide)
  have F10 : Fld Z h1 b1 "com/example/ferry2/ferry2/store/Session" "awaitingRelease" "Ljava/util/Set;" .null := D1 (Or.inr (hw _ (List.mem_of_getElem? (i := 145) rfl))) (ty := (.object "java/util/Set")) (by decide)
  have F11 : Fld Z h1 b1 "com/example/ferry2/ferry2/store/Session" "clientId" "Ljava/lang/String;" .null := D1 (Or.inr (hw _ (List.mem_of_getElem? (i := 147) rfl))) (ty := (.object "java/lang/String")) (by decide)
  refine Comes.st st1 ?_
  show Comes p e below _ (T1.setTop (mkF m 3 #[.val (.long qid), .second, .val (.long qa), .second, .val (.long qi), .second, .val (.int fl), .unset, .unset, .unset, .unset, .unset, .unset, .unset, .unset, .unset, .unset, .unset, .unset] [(.ref b1)]))
  refine Comes.st (fun t k => XS.dup X1.here hx rfl (hb hby at_3) rfl rfl (XS.lloadN X1.here hx rfl (hb hby at_4) rfl k)) ?_
  obtain ⟨b12, T12, h12, k12, X12, e12, E12, hS12, hk12, hZ, hown, st12⟩ := ldcS (s := s) (vm0 := s.vm) X1 hx hZ hown (hw _ (List.mem_of_getElem? (i := 3) rfl)) (fun d hd => by simp only [Bundle.stringAtoms, List.mem_cons, List.not_mem_nil, or_false] at hd; rcases hd with rfl | rfl | rfl | rfl | rfl | rfl | rfl; exact hw _ (List.mem_of_getElem? (i := 4) rfl); exact hw _ (List.mem_of_getElem? (i := 5) rfl); exact hw _ (List.mem_of_getElem? (i := 6) rfl); exact hw _ (List.mem_of_getElem? (i := 7) rfl); exact hw _ (List.mem_of_getElem? (i := 8) rfl); exact hw _ (List.mem_of_getElem? (i := 9) rfl); exact hw _ (List.mem_of_getElem? (i := 10) rfl)) e1 hS0 (Nat.zero_le _) (g := (mkF m 5 #[.val (.long qid), .second, .val (.long qa), .second, .val (.long qi), .second, .val (.int fl), .unset, .unset, .unset, .unset, .unset, .unset, .unset, .unset, .unset, .unset, .unset, .unset] [(.long qid), (.ref b1), (.ref b1)])) rfl (hb hby at_5) (n := 4) (by decide) (by decide) (by decide) (by decide)
  have z12 : h1.size ≤ h12.size := E12.1
  refine Comes.st st12 ?_
  show Comes p e below _ (T12.setTop (mkF m 7 #[.val (.long qid), .second, .val (.long qa), .second, .val (.long qi), .second, .val (.int fl), .unset, .unset, .unset, .unset, .unset, .unset, .unset, .unset, .unset, .unset, .unset, .unset] [(.ref b12), (.long qid), (.ref b1), (.ref b1)]))
  have F13 : Exa Z h12 b1 "com/example/ferry2/ferry2/store/Session" := (A1.ext E12)
  have F14 : Fld Z h12 b1 "com/example/ferry2/ferry2/store/Session" "expiryInterval" "J" (.long (0 : Int64)) := (F4.ext E12)
  have F15 : Fld Z h12 b1 "com/example/ferry2/ferry2/store/Session" "awaySince" "J" (.long (0 : Int64)) := (F5.ext E12)
  have F16 : Fld Z h12 b1 "com/example/ferry2/ferry2/store/Session" "subscriptions" "Ljava/util/Map;" .null := (F6.ext E12)
  have F17 : Fld Z h12 b1 "com/example/ferry2/ferry2/store/Session" "deliveries" "Ljava/util/Map;" .null := (F7.ext E12)
  have F18 : Fld Z h12 b1 "com/example/ferry2/ferry2/store/Session" "packetIds" "Ljava/util/Map;" .null := (F8.ext E12)
  have F19 : Fld Z h12 b1 "com/example/ferry2/ferry2/store/Session" "awaitingCompletion" "Ljava/util/Set;" .null := (F9.ext E12)
  have F20 : Fld Z h12 b1 "com/example/ferry2/ferry2/store/Session" "awaitingRelease" "Ljava/util/Set;" .null := (F10.ext E12)
  have F21 : Fld Z h12 b1 "com/example/ferry2/ferry2/store/Session" "clientId" "Ljava/lang/String;" .null := (F11.ext E12)
  have F22 : Fld Z h12 b1 "com/example/ferry2/ferry2/store/Endpoint" "pending" "Lcom/example/ferry2/ferry2/store/PendingMessages;" .null := (F2.ext E12)
  have F23 : Fld Z h12 b1 "com/example/ferry2/ferry2/store/Endpoint" "id" "J" (.long (0 : Int64)) := (F3.ext E12)
  obtain ⟨_, _, ⟨T24, L24, k24, n24⟩, -, X24, ⟨Lc24, hQ24, l24, y24, z24⟩, st24⟩ := X12.specialBack hx (y := (⟨"com/example/ferry2/ferry2/store/Session", "<init>", "(JLjava/lang/String;)V"⟩ : MethodName)) rfl hown (mvT hZ (hw _ (List.mem_of_getElem? (i := 11) rfl))) (mvT hZ (hw _ (List.mem_of_getElem? (i := 12) rfl))) (mvT hZ (hw _ (List.mem_of_getElem? (i := 13) rfl))) (by decide) (backOf (W := 1) (rm1 l Z a0 hw [] b1 qid b12 h12 n0 (by omega)  F13 F14 F15 F16 F17 F18 F19 F20 F21 F22 F23 (by omega)) hZ (hw _ (List.mem_of_getElem? (i := 13) rfl)) (hw _ (List.mem_of_getElem? (i := 2) rfl)) (by decide) (by decide)) (g := (mkF m 7 #[.val (.long qid), .second, .val (.long qa), .second, .val (.long qi), .second, .val (.int fl), .unset, .unset, .unset, .unset, .unset, .unset, .unset, .unset, .unset, .unset, .unset, .unset] [(.ref b12), (.long qid), (.ref b1), (.ref b1)])) rfl (by rw [hml]; rfl) (Steps.refl _) (a := b1) (argsL := [(.long qid), (.ref b12)]) (rest := [(.ref b1)]) (lenOf pd_6 rfl) rfl (by show 2 * 0 + _ ≤ _; exact Nat.le_of_eq rfl) (hb hby at_7) (fun _ _ => ⟨rfl, e12, (by decide : 3 + 9 ≤ _), (by decide : 20 + 74 ≤ _)⟩)
  dsimp only [Pt.U, Pt.locs, Pt.cells, Pt.slots] at X24 l24 y24 z24 st24 hQ24
  subst l24 y24 z24
  obtain ⟨rfl, Nq24, Kq24, P24_0, P24_1, P24_2⟩ := hQ24
  have N24 := Fr.app N0 Nq24
  have z24k : h12.size ≤ T24.heap.size := Kq24.1
  refine Comes.go st24 ?_
  have lt_25 : b1 < T24.heap.size := P24_0.lt
  show Comes p e below _ (T24.setTop (mkF m 10 #[.val (.long qid), .second, .val (.long qa), .second, .val (.long qi), .second, .val (.int fl), .unset, .unset, .unset, .unset, .unset, .unset, .unset, .unset, .unset, .unset, .unset, .unset] [(.ref b1)]))
  refine Comes.st (fun t k => XS.astore X24.here hx rfl (hb hby at_10) rfl rfl (l' := #[.val (.long qid), .second, .val (.long qa), .second, .val (.long qi), .second, .val (.int fl), .val (.ref b1), .unset, .unset, .unset, .unset, .unset, .unset, .unset, .unset, .unset, .unset, .unset]) rfl (XS.aload X24.here hx rfl (hb hby at_12) rfl rfl k)) ?_
  show Comes p e below _ (T24.setTop (mkF m 14 #[.val (.long qid), .second, .val (.long qa), .second, .val (.long qi), .second, .val (.int fl), .val (.ref b1), .unset, .unset, .unset, .unset, .unset, .unset, .unset, .unset, .unset, .unset, .unset] [(.ref b1)]))
  obtain ⟨cq26, kq26, q26a, q26b, q26c⟩ := isOf hZ rfl P24_0
  obtain ⟨_, _, ⟨T26, L26, k26, n26⟩, -, X26, ⟨Lc26, hQ26, l26, y26, z26⟩, st26⟩ := X24.virtualBack hx (y := (⟨"com/example/ferry2/ferry2/store/Session", "expiry", "()J"⟩ : MethodName)) (z := (⟨"com/example/ferry2/ferry2/store/Session", "expiry", "()J"⟩ : MethodName)) hown (mvT hZ (hw _ (List.mem_of_getElem? (i := 148) rfl))) (mvT hZ (hw _ (List.mem_of_getElem? (i := 149) rfl))) (notFace_of_selects (args := #[]) (mvT hZ (hw _ (List.mem_of_getElem? (i := 151) rfl)))) (mvT hZ (hw _ (List.mem_of_getElem? (i := 151) rfl))) (mvT hZ (hw _ (List.mem_of_getElem? (i := 150) rfl))) (by decide) (backOf (W := 0) (rm18 l Z a0 hw [] b1 ((4294967295 : Int64)) ((0 : Int64)) T24.heap n0 (by omega)  P24_1 P24_2) hZ (hw _ (List.mem_of_getElem? (i := 152) rfl)) (hw _ (List.mem_of_getElem? (i := 2) rfl)) (by decide) (by decide)) q26a q26c (g := (mkF m 14 #[.val (.long qid), .second, .val (.long qa), .second, .val (.long qi), .second, .val (.int fl), .val (.ref b1), .unset, .unset, .unset, .unset, .unset, .unset, .unset, .unset, .unset, .unset, .unset] [(.ref b1)])) rfl (by rw [hml]; rfl) (Steps.refl _) (argsL := []) (rest := []) (lenOf pd_7 rfl) rfl (by show 2 * 0 + _ ≤ _; exact Nat.le_of_eq rfl) (hb hby at_14) (fun _ _ => ⟨rfl, rfl, (by decide : 12 + 0 ≤ _), (by decide : 94 + 0 ≤ _)⟩)
  dsimp only [Pt.U, Pt.locs, Pt.cells, Pt.slots] at X26 l26 y26 z26 st26 hQ26
  subst l26 y26 z26
  obtain ⟨r27, rfl, Nq26, hs26, P26_0⟩ := hQ26
  have N26 := Fr.app N24 Nq26
  refine Comes.go st26 ?_
  show Comes p e below _ (T26.setTop (mkF m 17 #[.val (.long qid), .second, .val (.long qa), .second, .val (.long qi), .second, .val (.int fl), .val (.ref b1), .unset, .unset, .unset, .unset, .unset, .unset, .unset, .unset, .unset, .unset, .unset] [(.long r27)]))
  refine Comes.st (fun t k => XS.lstore X26.here hx rfl (hb hby at_17) rfl (l' := #[.val (.long qid), .second, .val (.long qa), .second, .val (.long qi), .second, .val (.int fl), .val (.ref b1), .val (.long r27), .second, .unset, .unset, .unset, .unset, .unset, .unset, .unset, .unset, .unset]) rfl (XS.lload X26.here hx rfl (hb hby at_19) rfl (X26.ldc2Long hx hown (mvT hZ (hw _ (List.mem_of_getElem? (i := 154) rfl))) (g := (mkF m 21 #[.val (.long qid), .second, .val (.long qa), .second, .val (.long qi), .second, .val (.int fl), .val (.ref b1), .val (.long r27), .second, .unset, .unset, .unset, .unset, .unset, .unset, .unset, .unset, .unset] [(.long r27)])) rfl (hb hby at_21) _ (XS.lcmp X26.here hx rfl (hb hby at_24) rfl k)))) ?_
  show Comes p e below _ (T26.setTop (mkF m 25 #[.val (.long qid), .second, .val (.long qa), .second, .val (.long qi), .second, .val (.int fl), .val (.ref b1), .val (.long r27), .second, .unset, .unset, .unset, .unset, .unset, .unset, .unset, .unset, .unset] [(.int (lcmpW r27 (9223372036854775807 : Int64)))]))
  have hc25_28 : r27 = (9223372036854775807 : Int64) := by exact P26_0.elim (fun q => q.2) (fun q => q.elim (fun q => q.2.2) (fun q => absurd rfl q.1))
  refine Comes.st (fun t k => XS.ifYes X26.here hx rfl (pc0 := 25) (pc' := 30) rfl (hb hby at_25) rfl ((if0 _ _).trans (teq ((lw_eq _ _).mpr hc25_28)).1) (by decide) (by decide) (XS.lload X26.here hx rfl (hb hby at_30) rfl (X26.ldc2Long hx hown (mvT hZ (hw _ (List.mem_of_getElem? (i := 155) rfl))) (g := (mkF m 32 #[.val (.long qid), .second, .val (.long qa), .second, .val (.long qi), .second, .val (.int fl), .val (.ref b1), .val (.long r27), .second, .unset, .unset, .unset, .unset, .unset, .unset, .unset, .unset, .unset] [(.long qi)])) rfl (hb hby at_32) _ (XS.land X26.here hx rfl (hb hby at_35) rfl k)))) ?_
  show Comes p e below _ (T26.setTop (mkF m 36 #[.val (.long qid), .second, .val (.long qa), .second, .val (.long qi), .second, .val (.int fl), .val (.ref b1), .val (.long r27), .second, .unset, .unset, .unset, .unset, .unset, .unset, .unset, .unset, .unset] [(.long (qi &&& (4294967295 : Int64)))]))
  generalize hv_v29 : (qi &&& (4294967295 : Int64)) = v29
  show Comes p e below _ (T26.setTop (mkF m 36 #[.val (.long qid), .second, .val (.long qa), .second, .val (.long qi), .second, .val (.int fl), .val (.ref b1), .val (.long r27), .second, .unset, .unset, .unset, .unset, .unset, .unset, .unset, .unset, .unset] [(.long v29)]))
  refine Comes.st (fun t k => XS.lstore X26.here hx rfl (hb hby at_36) rfl (l' := #[.val (.long qid), .second, .val (.long qa), .second, .val (.long qi), .second, .val (.int fl), .val (.ref b1), .val (.long r27), .second, .val (.long v29), .second, .unset, .unset, .unset, .unset, .unset, .unset, .unset]) rfl (XS.lloadN X26.here hx rfl (hb hby at_38) rfl (X26.ldc2Long hx hown (mvT hZ (hw _ (List.mem_of_getElem? (i := 156) rfl))) (g := (mkF m 39 #[.val (.long qid), .second, .val (.long qa), .second, .val (.long qi), .second, .val (.int fl), .val (.ref b1), .val (.long r27), .second, .val (.long v29), .second, .unset, .unset, .unset, .unset, .unset, .unset, .unset] [(.long qa)])) rfl (hb hby at_39) _ (XS.land X26.here hx rfl (hb hby at_42) rfl k)))) ?_
  show Comes p e below _ (T26.setTop (mkF m 43 #[.val (.long qid), .second, .val (.long qa), .second, .val (.long qi), .second, .val (.int fl), .val (.ref b1), .val (.long r27), .second, .val (.long v29), .second, .unset, .unset, .unset, .unset, .unset, .unset, .unset] [(.long (qa &&& (4611686018427387903 : Int64)))]))
  generalize hv_v30 : (qa &&& (4611686018427387903 : Int64)) = v30
  show Comes p e below _ (T26.setTop (mkF m 43 #[.val (.long qid), .second, .val (.long qa), .second, .val (.long qi), .second, .val (.int fl), .val (.ref b1), .val (.long r27), .second, .val (.long v29), .second, .unset, .unset, .unset, .unset, .unset, .unset, .unset] [(.long v30)]))
  refine Comes.st (fun t k => XS.lstore X26.here hx rfl (hb hby at_43) rfl (l' := #[.val (.long qid), .second, .val (.long qa), .second, .val (.long qi), .second, .val (.int fl), .val (.ref b1), .val (.long r27), .second, .val (.long v29), .second, .val (.long v30), .second, .unset, .unset, .unset, .unset, .unset]) rfl (XS.iload X26.here hx rfl (hb hby at_45) rfl (XS.iconst X26.here hx rfl (hb hby at_47) (XS.iand X26.here hx rfl (hb hby at_48) rfl k)))) ?_
  show Comes p e below _ (T26.setTop (mkF m 49 #[.val (.long qid), .second, .val (.long qa), .second, .val (.long qi), .second, .val (.int fl), .val (.ref b1), .val (.long r27), .second, .val (.long v29), .second, .val (.long v30), .second, .unset, .unset, .unset, .unset, .unset] [(.int (fl &&& (3 : Int32)))]))
  generalize hv_v31 : (fl &&& (3 : Int32)) = v31
  show Comes p e below _ (T26.setTop (mkF m 49 #[.val (.long qid), .second, .val (.long qa), .second, .val (.long qi), .second, .val (.int fl), .val (.ref b1), .val (.long r27), .second, .val (.long v29), .second, .val (.long v30), .second, .unset, .unset, .unset, .unset, .unset] [(.int v31)]))
  refine Comes.st (fun t k => XS.istore X26.here hx rfl (hb hby at_49) rfl (l' := #[.val (.long qid), .second, .val (.long qa), .second, .val (.long qi), .second, .val (.int fl), .val (.ref b1), .val (.long r27), .second, .val (.long v29), .second, .val (.long v30), .second, .val (.int v31), .unset, .unset, .unset, .unset]) rfl k) ?_
  have r_v29 := own_m32 hv_v29
  have r_v30 := own_m62 hv_v30
  show Comes p e below _ (T26.setTop (mkF m 51 #[.val (.long qid), .second, .val (.long qa), .second, .val (.long qi), .second, .val (.int fl), .val (.ref b1), .val (.long r27), .second, .val (.long v29), .second, .val (.long v30), .second, .val (.int v31), .unset, .unset, .unset, .unset] []))
  refine Comes.st (fun t k => XS.iload X26.here hx rfl (hb hby at_51) rfl k) ?_
  show Comes p e below _ (T26.setTop (mkF m 53 #[.val (.long qid), .second, .val (.long qa), .second, .val (.long qi), .second, .val (.int fl), .val (.ref b1), .val (.long r27), .second, .val (.long v29), .second, .val (.long v30), .second, .val (.int v31), .unset, .unset, .unset, .unset] [(.int v31)]))
  by_cases hc53_32 : v31 = (0 : Int32)
  · refine Comes.st (fun t k => XS.ifNo X26.here hx rfl (hb hby at_53) rfl ((if0 _ _).trans (teq hc53_32).2) (XS.lconst X26.here hx rfl (hb hby at_56) (XS.lstore X26.here hx rfl (hb hby at_57) rfl (l' := #[.val (.long qid), .second, .val (.long qa), .second, .val (.long qi), .second, .val (.int fl), .val (.ref b1), .val (.long r27), .second, .val (.long v29), .second, .val (.long (0 : Int64)), .second, .val (.int v31), .unset, .unset, .unset, .unset]) rfl (XS.goto X26.here hx rfl (pc0 := 59) (pc' := 87) rfl (hb hby at_59) (by decide) (by decide) (XS.aload X26.here hx rfl (hb hby at_87) rfl rfl (XS.lload X26.here hx rfl (hb hby at_89) rfl k)))))) ?_
    show Comes p e below _ (T26.setTop (mkF m 91 #[.val (.long qid), .second, .val (.long qa), .second, .val (.long qi), .second, .val (.int fl), .val (.ref b1), .val (.long r27), .second, .val (.long v29), .second, .val (.long (0 : Int64)), .second, .val (.int v31), .unset, .unset, .unset, .unset] [(.long v29), (.ref b1)]))
    obtain ⟨T33, h33, X33, e33, W33, st33⟩ := putF X26 hx hZ hown (host := "") (Or.inl (hw _ (List.mem_of_getElem? (i := 158) rfl))) Via.refl hs26 P24_1 P24_0 (Or.inl (hw _ (List.mem_of_getElem? (i := 44) rfl))) (hw _ (List.mem_of_getElem? (i := 1) rfl)) (ty := .long) (by decide) rfl rfl (g := (mkF m 91 #[.val (.long qid), .second, .val (.long qa), .second, .val (.long qi), .second, .val (.int fl), .val (.ref b1), .val (.long r27), .second, .val (.long v29), .second, .val (.long (0 : Int64)), .second, .val (.int v31), .unset, .unset, .unset, .unset] [(.long v29), (.ref b1)])) rfl rfl (hb hby at_91)
    have Fw33 := P24_1.same W33
    have z33 : h33.size = T24.heap.size := W33.size
    have gn34 : n0 ≤ b1 := by omega
    have N33 := Fr.snoc X33 N26 gn34
    refine Comes.st st33 ?_
    show Comes p e below _ (T33.setTop (mkF m 94 #[.val (.long qid), .second, .val (.long qa), .second, .val (.long qi), .second, .val (.int fl), .val (.ref b1), .val (.long r27), .second, .val (.long v29), .second, .val (.long (0 : Int64)), .second, .val (.int v31), .unset, .unset, .unset, .unset] []))
    refine Comes.st (fun t k => XS.aload X33.here hx rfl (hb hby at_94) rfl rfl (XS.lload X33.here hx rfl (hb hby at_96) rfl k)) ?_
    show Comes p e below _ (T33.setTop (mkF m 98 #[.val (.long qid), .second, .val (.long qa), .second, .val (.long qi), .second, .val (.int fl), .val (.ref b1), .val (.long r27), .second, .val (.long v29), .second, .val (.long (0 : Int64)), .second, .val (.int v31), .unset, .unset, .unset, .unset] [(.long (0 : Int64)), (.ref b1)]))
    have F35 : Exa Z h33 b1 "com/example/ferry2/ferry2/store/Session" := (P24_0.wr W33)
    have F36 : Fld Z h33 b1 "com/example/ferry2/ferry2/store/Session" "awaySince" "J" (.long (0 : Int64)) := (P24_2.other W33 (Or.inr (slot_ne (Or.inl (hw _ (List.mem_of_getElem? (i := 46) rfl))) (Or.inl (hw _ (List.mem_of_getElem? (i := 44) rfl))) (by decide) (t := .long) (t' := .long) (by decide) (by decide))))
    obtain ⟨T37, h37, X37, e37, W37, st37⟩ := putF X33 hx hZ hown (host := "") (Or.inl (hw _ (List.mem_of_getElem? (i := 159) rfl))) Via.refl e33 F36 F35 (Or.inl (hw _ (List.mem_of_getElem? (i := 46) rfl))) (hw _ (List.mem_of_getElem? (i := 1) rfl)) (ty := .long) (by decide) rfl rfl (g := (mkF m 98 #[.val (.long qid), .second, .val (.long qa), .second, .val (.long qi), .second, .val (.int fl), .val (.ref b1), .val (.long r27), .second, .val (.long v29), .second, .val (.long (0 : Int64)), .second, .val (.int v31), .unset, .unset, .unset, .unset] [(.long (0 : Int64)), (.ref b1)])) rfl rfl (hb hby at_98)
    have Fw37 := F36.same W37
    have z37 : h37.size = h33.size := W37.size
    have N37 := Fr.snoc X37 N33 gn34
    refine Comes.st st37 ?_
    show Comes p e below _ (T37.setTop (mkF m 101 #[.val (.long qid), .second, .val (.long qa), .second, .val (.long qi), .second, .val (.int fl), .val (.ref b1), .val (.long r27), .second, .val (.long v29), .second, .val (.long (0 : Int64)), .second, .val (.int v31), .unset, .unset, .unset, .unset] []))
    refine Comes.st (fun t k => XS.aload X37.here hx rfl (hb hby at_101) rfl rfl k) ?_
    show Comes p e below _ (T37.setTop (mkF m 103 #[.val (.long qid), .second, .val (.long qa), .second, .val (.long qi), .second, .val (.int fl), .val (.ref b1), .val (.long r27), .second, .val (.long v29), .second, .val (.long (0 : Int64)), .second, .val (.int v31), .unset, .unset, .unset, .unset] [(.ref b1)]))
    have F38 : Fld Z h37 b1 "com/example/ferry2/ferry2/store/Session" "expiryInterval" "J" (.long v29) := (Fw33.other W37 (Or.inr (slot_ne (Or.inl (hw _ (List.mem_of_getElem? (i := 44) rfl))) (Or.inl (hw _ (List.mem_of_getElem? (i := 46) rfl))) (by decide) (t := .long) (t' := .long) (by decide) (by decide))))
    have F40 : Exa Z h37 b1 "com/example/ferry2/ferry2/store/Session" := (F35.wr W37)
    obtain ⟨cq39, kq39, q39a, q39b, q39c⟩ := isOf hZ e37 F40
    obtain ⟨_, _, ⟨T39, L39, k39, n39⟩, -, X39, ⟨Lc39, hQ39, l39, y39, z39⟩, st39⟩ := X37.virtualBack hx (y := (⟨"com/example/ferry2/ferry2/store/Session", "expiry", "()J"⟩ : MethodName)) (z := (⟨"com/example/ferry2/ferry2/store/Session", "expiry", "()J"⟩ : MethodName)) hown (mvT hZ (hw _ (List.mem_of_getElem? (i := 148) rfl))) (mvT hZ (hw _ (List.mem_of_getElem? (i := 149) rfl))) (notFace_of_selects (args := #[]) (mvT hZ (hw _ (List.mem_of_getElem? (i := 151) rfl)))) (mvT hZ (hw _ (List.mem_of_getElem? (i := 151) rfl))) (mvT hZ (hw _ (List.mem_of_getElem? (i := 150) rfl))) (by decide) (backOf (W := 0) (rm18 l Z a0 hw [] b1 v29 ((0 : Int64)) h37 n0 (by omega)  F38 Fw37) hZ (hw _ (List.mem_of_getElem? (i := 152) rfl)) (hw _ (List.mem_of_getElem? (i := 2) rfl)) (by decide) (by decide)) q39a q39c (g := (mkF m 103 #[.val (.long qid), .second, .val (.long qa), .second, .val (.long qi), .second, .val (.int fl), .val (.ref b1), .val (.long r27), .second, .val (.long v29), .second, .val (.long (0 : Int64)), .second, .val (.int v31), .unset, .unset, .unset, .unset] [(.ref b1)])) rfl (by rw [hml]; rfl) (Steps.refl _) (argsL := []) (rest := []) (lenOf pd_7 rfl) rfl (by show 2 * 0 + _ ≤ _; exact Nat.le_of_eq rfl) (hb hby at_103) (fun _ _ => ⟨rfl, e37, (by decide : 12 + 0 ≤ _), (by decide : 94 + 0 ≤ _)⟩)
    dsimp only [Pt.U, Pt.locs, Pt.cells, Pt.slots] at X39 l39 y39 z39 st39 hQ39
    subst l39 y39 z39
    obtain ⟨r41, rfl, Nq39, hs39, P39_0⟩ := hQ39
    have N39 := Fr.app N37 Nq39
    refine Comes.go st39 ?_
    show Comes p e below _ (T39.setTop (mkF m 106 #[.val (.long qid), .second, .val (.long qa), .second, .val (.long qi), .second, .val (.int fl), .val (.ref b1), .val (.long r27), .second, .val (.long v29), .second, .val (.long (0 : Int64)), .second, .val (.int v31), .unset, .unset, .unset, .unset] [(.long r41)]))
    refine Comes.st (fun t k => XS.lstore X39.here hx rfl (hb hby at_106) rfl (l' := #[.val (.long qid), .second, .val (.long qa), .second, .val (.long qi), .second, .val (.int fl), .val (.ref b1), .val (.long r27), .second, .val (.long v29), .second, .val (.long (0 : Int64)), .second, .val (.int v31), .val (.long r41), .second, .unset, .unset]) rfl (XS.lload X39.here hx rfl (hb hby at_108) rfl (XS.lconst X39.here hx rfl (hb hby at_110) (XS.lcmp X39.here hx rfl (hb hby at_111) rfl k)))) ?_
    show Comes p e below _ (T39.setTop (mkF m 112 #[.val (.long qid), .second, .val (.long qa), .second, .val (.long qi), .second, .val (.int fl), .val (.ref b1), .val (.long r27), .second, .val (.long v29), .second, .val (.long (0 : Int64)), .second, .val (.int v31), .val (.long r41), .second, .unset, .unset] [(.int (lcmpW (0 : Int64) (0 : Int64)))]))
    have hc112_42 : (0 : Int64) = (0 : Int64) := by decide
    refine Comes.st (fun t k => XS.ifNo X39.here hx rfl (hb hby at_112) rfl ((if0 _ _).trans (teq ((lw_eq _ _).mpr hc112_42)).2) (XS.lload X39.here hx rfl (hb hby at_115) rfl (X39.ldc2Long hx hown (mvT hZ (hw _ (List.mem_of_getElem? (i := 154) rfl))) (g := (mkF m 117 #[.val (.long qid), .second, .val (.long qa), .second, .val (.long qi), .second, .val (.int fl), .val (.ref b1), .val (.long r27), .second, .val (.long v29), .second, .val (.long (0 : Int64)), .second, .val (.int v31), .val (.long r41), .second, .unset, .unset] [(.long r41)])) rfl (hb hby at_117) _ (XS.lcmp X39.here hx rfl (hb hby at_120) rfl k)))) ?_
    show Comes p e below _ (T39.setTop (mkF m 121 #[.val (.long qid), .second, .val (.long qa), .second, .val (.long qi), .second, .val (.int fl), .val (.ref b1), .val (.long r27), .second, .val (.long v29), .second, .val (.long (0 : Int64)), .second, .val (.int v31), .val (.long r41), .second, .unset, .unset] [(.int (lcmpW r41 (9223372036854775807 : Int64)))]))
    have hc121_43 : r41 = (9223372036854775807 : Int64) := by exact P39_0.elim (fun q => q.2) (fun q => q.elim (fun q => q.2.2) (fun q => absurd rfl q.2.1))
    refine Comes.st (fun t k => XS.ifNo X39.here hx rfl (hb hby at_121) rfl ((if0 _ _).trans (teq ((lw_eq _ _).mpr hc121_43)).2) (XS.iconst X39.here hx rfl (hb hby at_124) (XS.goto X39.here hx rfl (pc0 := 125) (pc' := 129) rfl (hb hby at_125) (by decide) (by decide) k))) ?_
    show Comes p e below _ (T39.setTop (mkF m 129 #[.val (.long qid), .second, .val (.long qa), .second, .val (.long qi), .second, .val (.int fl), .val (.ref b1), .val (.long r27), .second, .val (.long v29), .second, .val (.long (0 : Int64)), .second, .val (.int v31), .val (.long r41), .second, .unset, .unset] [(.int (1 : Int32))]))
    have hkf : k12 ≤ h37.size := by omega
    exact Comes.wretN X39 hx (t := .boolean) Bd.returns (by simp) hlk (hb hby at_129) hS12 hkf hs39 ⟨rfl, N39⟩ (by decide) (by decide)
  · refine Comes.st (fun t k => XS.ifYes X26.here hx rfl (pc0 := 53) (pc' := 62) rfl (hb hby at_53) rfl ((if0 _ _).trans (feq hc53_32).2) (by decide) (by decide) (XS.iload X26.here hx rfl (hb hby at_62) rfl (XS.iconst X26.here hx rfl (hb hby at_64) k))) ?_
    show Comes p e below _ (T26.setTop (mkF m 65 #[.val (.long qid), .second, .val (.long qa), .second, .val (.long qi), .second, .val (.int fl), .val (.ref b1), .val (.long r27), .second, .val (.long v29), .second, .val (.long v30), .second, .val (.int v31), .unset, .unset, .unset, .unset] [(.int (1 : Int32)), (.int v31)]))
    by_cases hc65_44 : v31 = (1 : Int32)
    · refine Comes.st (fun t k => XS.icmpNo X26.here hx rfl (hb hby at_65) rfl (teq hc65_44).2 (X26.ldc2Long hx hown (mvT hZ (hw _ (List.mem_of_getElem? (i := 155) rfl))) (g := (mkF m 68 #[.val (.long qid), .second, .val (.long qa), .second, .val (.long qi), .second, .val (.int fl), .val (.ref b1), .val (.long r27), .second, .val (.long v29), .second, .val (.long v30), .second, .val (.int v31), .unset, .unset, .unset, .unset] [])) rfl (hb hby at_68) _ (XS.lstore X26.here hx rfl (hb hby at_71) rfl (l' := #[.val (.long qid), .second, .val (.long qa), .second, .val (.long qi), .second, .val (.int fl), .val (.ref b1), .val (.long r27), .second, .val (.long (4294967295 : Int64)), .second, .val (.long v30), .second, .val (.int v31), .unset, .unset, .unset, .unset]) rfl (XS.goto X26.here hx rfl (pc0 := 73) (pc' := 87) rfl (hb hby at_73) (by decide) (by decide) (XS.aload X26.here hx rfl (hb hby at_87) rfl rfl (XS.lload X26.here hx rfl (hb hby at_89) rfl k)))))) ?_
      show Comes p e below _ (T26.setTop (mkF m 91 #[.val (.long qid), .second, .val (.long qa), .second, .val (.long qi), .second, .val (.int fl), .val (.ref b1), .val (.long r27), .second, .val (.long (4294967295 : Int64)), .second, .val (.long v30), .second, .val (.int v31), .unset, .unset, .unset, .unset] [(.long (4294967295 : Int64)), (.ref b1)]))
      obtain ⟨T45, h45, X45, e45, W45, st45⟩ := putF X26 hx hZ hown (host := "") (Or.inl (hw _ (List.mem_of_getElem? (i := 158) rfl))) Via.refl hs26 P24_1 P24_0 (Or.inl (hw _ (List.mem_of_getElem? (i := 44) rfl))) (hw _ (List.mem_of_getElem? (i := 1) rfl)) (ty := .long) (by decide) rfl rfl (g := (mkF m 91 #[.val (.long qid), .second, .val (.long qa), .second, .val (.long qi), .second, .val (.int fl), .val (.ref b1), .val (.long r27), .second, .val (.long (4294967295 : Int64)), .second, .val (.long v30), .second, .val (.int v31), .unset, .unset, .unset, .unset] [(.long (4294967295 : Int64)), (.ref b1)])) rfl rfl (hb hby at_91)
      have Fw45 := P24_1.same W45
      have z45 : h45.size = T24.heap.size := W45.size
      have gn46 : n0 ≤ b1 := by omega
      have N45 := Fr.snoc X45 N26 gn46
      refine Comes.st st45 ?_
      show Comes p e below _ (T45.setTop (mkF m 94 #[.val (.long qid), .second, .val (.long qa), .second, .val (.long qi), .second, .val (.int fl), .val (.ref b1), .val (.long r27), .second, .val (.long (4294967295 : Int64)), .second, .val (.long v30), .second, .val (.int v31), .unset, .unset, .unset, .unset] []))
      refine Comes.st (fun t k => XS.aload X45.here hx rfl (hb hby at_94) rfl rfl (XS.lload X45.here hx rfl (hb hby at_96) rfl k)) ?_
      show Comes p e below _ (T45.setTop (mkF m 98 #[.val (.long qid), .second, .val (.long qa), .second, .val (.long qi), .second, .val (.int fl), .val (.ref b1), .val (.long r27), .second, .val (.long (4294967295 : Int64)), .second, .val (.long v30), .second, .val (.int v31), .unset, .unset, .unset, .unset] [(.long v30), (.ref b1)]))
      have F47 : Exa Z h45 b1 "com/example/ferry2/ferry2/store/Session" := (P24_0.wr W45)
      have F48 : Fld Z h45 b1 "com/example/ferry2/ferry2/store/Session" "awaySince" "J" (.long (0 : Int64)) := (P24_2.other W45 (Or.inr (slot_ne (Or.inl (hw _ (List.mem_of_getElem? (i := 46) rfl))) (Or.inl (hw _ (List.mem_of_getElem? (i := 44) rfl))) (by decide) (t := .long) (t' := .long) (by decide) (by decide))))
      obtain ⟨T49, h49, X49, e49, W49, st49⟩ := putF X45 hx hZ hown (host := "") (Or.inl (hw _ (List.mem_of_getElem? (i := 159) rfl))) Via.refl e45 F48 F47 (Or.inl (hw _ (List.mem_of_getElem? (i := 46) rfl))) (hw _ (List.mem_of_getElem? (i := 1) rfl)) (ty := .long) (by decide) rfl rfl (g := (mkF m 98 #[.val (.long qid), .second, .val (.long qa), .second, .val (.long qi), .second, .val (.int fl), .val (.ref b1), .val (.long r27), .second, .val (.long (4294967295 : Int64)), .second, .val (.long v30), .second, .val (.int v31), .unset, .unset, .unset, .unset] [(.long v30), (.ref b1)])) rfl rfl (hb hby at_98)
      have Fw49 := F48.same W49
      have z49 : h49.size = h45.size := W49.size
      have N49 := Fr.snoc X49 N45 gn46
      refine Comes.st st49 ?_
      show Comes p e below _ (T49.setTop (mkF m 101 #[.val (.long qid), .second, .val (.long qa), .second, .val (.long qi), .second, .val (.int fl), .val (.ref b1), .val (.long r27), .second, .val (.long (4294967295 : Int64)), .second, .val (.long v30), .second, .val (.int v31), .unset, .unset, .unset, .unset] []))
      refine Comes.st (fun t k => XS.aload X49.here hx rfl (hb hby at_101) rfl rfl k) ?_
      show Comes p e below _ (T49.setTop (mkF m 103 #[.val (.long qid), .second, .val (.long qa), .second, .val (.long qi), .second, .val (.int fl), .val (.ref b1), .val (.long r27), .second, .val (.long (4294967295 : Int64)), .second, .val (.long v30), .second, .val (.int v31), .unset, .unset, .unset, .unset] [(.ref b1)]))
      have F50 : Fld Z h49 b1 "com/example/ferry2/ferry2/store/Session" "expiryInterval" "J" (.long (4294967295 : Int64)) := (Fw45.other W49 (Or.inr (slot_ne (Or.inl (hw _ (List.mem_of_getElem? (i := 44) rfl))) (Or.inl (hw _ (List.mem_of_getElem? (i := 46) rfl))) (by decide) (t := .long) (t' := .long) (by decide) (by decide))))
      have F52 : Exa Z h49 b1 "com/example/ferry2/ferry2/store/Session" := (F47.wr W49)
      obtain ⟨cq51, kq51, q51a, q51b, q51c⟩ := isOf hZ e49 F52
      obtain ⟨_, _, ⟨T51, L51, k51, n51⟩, -, X51, ⟨Lc51, hQ51, l51, y51, z51⟩, st51⟩ := X49.virtualBack hx (y := (⟨"com/example/ferry2/ferry2/store/Session", "expiry", "()J"⟩ : MethodName)) (z := (⟨"com/example/ferry2/ferry2/store/Session", "expiry", "()J"⟩ : MethodName)) hown (mvT hZ (hw _ (List.mem_of_getElem? (i := 148) rfl))) (mvT hZ (hw _ (List.mem_of_getElem? (i := 149) rfl))) (notFace_of_selects (args := #[]) (mvT hZ (hw _ (List.mem_of_getElem? (i := 151) rfl)))) (mvT hZ (hw _ (List.mem_of_getElem? (i := 151) rfl))) (mvT hZ (hw _ (List.mem_of_getElem? (i := 150) rfl))) (by decide) (backOf (W := 0) (rm18 l Z a0 hw [] b1 ((4294967295 : Int64)) v30 h49 n0 (by omega)  F50 Fw49) hZ (hw _ (List.mem_of_getElem? (i := 152) rfl)) (hw _ (List.mem_of_getElem? (i := 2) rfl)) (by decide) (by decide)) q51a q51c (g := (mkF m 103 #[.val (.long qid), .second, .val (.long qa), .second, .val (.long qi), .second, .val (.int fl), .val (.ref b1), .val (.long r27), .second, .val (.long (4294967295 : Int64)), .second, .val (.long v30), .second, .val (.int v31), .unset, .unset, .unset, .unset] [(.ref b1)])) rfl (by rw [hml]; rfl) (Steps.refl _) (argsL := []) (rest := []) (lenOf pd_7 rfl) rfl (by show 2 * 0 + _ ≤ _; exact Nat.le_of_eq rfl) (hb hby at_103) (fun _ _ => ⟨rfl, e49, (by decide : 12 + 0 ≤ _), (by decide : 94 + 0 ≤ _)⟩)
      dsimp only [Pt.U, Pt.locs, Pt.cells, Pt.slots] at X51 l51 y51 z51 st51 hQ51
      subst l51 y51 z51
      obtain ⟨r53, rfl, Nq51, hs51, P51_0⟩ := hQ51
      have N51 := Fr.app N49 Nq51
      refine Comes.go st51 ?_
      show Comes p e below _ (T51.setTop (mkF m 106 #[.val (.long qid), .second, .val (.long qa), .second, .val (.long qi), .second, .val (.int fl), .val (.ref b1), .val (.long r27), .second, .val (.long (4294967295 : Int64)), .second, .val (.long v30), .second, .val (.int v31), .unset, .unset, .unset, .unset] [(.long r53)]))
      refine Comes.st (fun t k => XS.lstore X51.here hx rfl (hb hby at_106) rfl (l' := #[.val (.long qid), .second, .val (.long qa), .second, .val (.long qi), .second, .val (.int fl), .val (.ref b1), .val (.long r27), .second, .val (.long (4294967295 : Int64)), .second, .val (.long v30), .second, .val (.int v31), .val (.long r53), .second, .unset, .unset]) rfl (XS.lload X51.here hx rfl (hb hby at_108) rfl (XS.lconst X51.here hx rfl (hb hby at_110) (XS.lcmp X51.here hx rfl (hb hby at_111) rfl k)))) ?_
      show Comes p e below _ (T51.setTop (mkF m 112 #[.val (.long qid), .second, .val (.long qa), .second, .val (.long qi), .second, .val (.int fl), .val (.ref b1), .val (.long r27), .second, .val (.long (4294967295 : Int64)), .second, .val (.long v30), .second, .val (.int v31), .val (.long r53), .second, .unset, .unset] [(.int (lcmpW v30 (0 : Int64)))]))
      by_cases hc112_54 : v30 = (0 : Int64)
      · refine Comes.st (fun t k => XS.ifNo X51.here hx rfl (hb hby at_112) rfl ((if0 _ _).trans (teq ((lw_eq _ _).mpr hc112_54)).2) (XS.lload X51.here hx rfl (hb hby at_115) rfl (X51.ldc2Long hx hown (mvT hZ (hw _ (List.mem_of_getElem? (i := 154) rfl))) (g := (mkF m 117 #[.val (.long qid), .second, .val (.long qa), .second, .val (.long qi), .second, .val (.int fl), .val (.ref b1), .val (.long r27), .second, .val (.long (4294967295 : Int64)), .second, .val (.long v30), .second, .val (.int v31), .val (.long r53), .second, .unset, .unset] [(.long r53)])) rfl (hb hby at_117) _ (XS.lcmp X51.here hx rfl (hb hby at_120) rfl k)))) ?_
        show Comes p e below _ (T51.setTop (mkF m 121 #[.val (.long qid), .second, .val (.long qa), .second, .val (.long qi), .second, .val (.int fl), .val (.ref b1), .val (.long r27), .second, .val (.long (4294967295 : Int64)), .second, .val (.long v30), .second, .val (.int v31), .val (.long r53), .second, .unset, .unset] [(.int (lcmpW r53 (9223372036854775807 : Int64)))]))
        have hc121_55 : r53 = (9223372036854775807 : Int64) := by exact P51_0.elim (fun q => q.2) (fun q => q.elim (fun q => q.2.2) (fun q => absurd hc112_54 q.2.1))
        refine Comes.st (fun t k => XS.ifNo X51.here hx rfl (hb hby at_121) rfl ((if0 _ _).trans (teq ((lw_eq _ _).mpr hc121_55)).2) (XS.iconst X51.here hx rfl (hb hby at_124) (XS.goto X51.here hx rfl (pc0 := 125) (pc' := 129) rfl (hb hby at_125) (by decide) (by decide) k))) ?_
        show Comes p e below _ (T51.setTop (mkF m 129 #[.val (.long qid), .second, .val (.long qa), .second, .val (.long qi), .second, .val (.int fl), .val (.ref b1), .val (.long r27), .second, .val (.long (4294967295 : Int64)), .second, .val (.long v30), .second, .val (.int v31), .val (.long r53), .second, .unset, .unset] [(.int (1 : Int32))]))
        have hkf : k12 ≤ h49.size := by omega
        exact Comes.wretN X51 hx (t := .boolean) Bd.returns (by simp) hlk (hb hby at_129) hS12 hkf hs51 ⟨rfl, N51⟩ (by decide) (by decide)
      · refine Comes.st (fun t k => XS.ifYes X51.here hx rfl (pc0 := 112) (pc' := 130) rfl (hb hby at_112) rfl ((if0 _ _).trans (feq (fun q => hc112_54 ((lw_eq _ _).mp q))).2) (by decide) (by decide) (XS.lload X51.here hx rfl (hb hby at_130) rfl (X51.ldc2Long hx hown (mvT hZ (hw _ (List.mem_of_getElem? (i := 155) rfl))) (g := (mkF m 132 #[.val (.long qid), .second, .val (.long qa), .second, .val (.long qi), .second, .val (.int fl), .val (.ref b1), .val (.long r27), .second, .val (.long (4294967295 : Int64)), .second, .val (.long v30), .second, .val (.int v31), .val (.long r53), .second, .unset, .unset] [(.long (4294967295 : Int64))])) rfl (hb hby at_132) _ (XS.lcmp X51.here hx rfl (hb hby at_135) rfl k)))) ?_
        show Comes p e below _ (T51.setTop (mkF m 136 #[.val (.long qid), .second, .val (.long qa), .second, .val (.long qi), .second, .val (.int fl), .val (.ref b1), .val (.long r27), .second, .val (.long (4294967295 : Int64)), .second, .val (.long v30), .second, .val (.int v31), .val (.long r53), .second, .unset, .unset] [(.int (lcmpW (4294967295 : Int64) (4294967295 : Int64)))]))
        have hc136_56 : (4294967295 : Int64) = (4294967295 : Int64) := by decide
        refine Comes.st (fun t k => XS.ifNo X51.here hx rfl (hb hby at_136) rfl ((if0 _ _).trans (teq ((lw_eq _ _).mpr hc136_56)).2) (XS.lload X51.here hx rfl (hb hby at_139) rfl (X51.ldc2Long hx hown (mvT hZ (hw _ (List.mem_of_getElem? (i := 154) rfl))) (g := (mkF m 141 #[.val (.long qid), .second, .val (.long qa), .second, .val (.long qi), .second, .val (.int fl), .val (.ref b1), .val (.long r27), .second, .val (.long (4294967295 : Int64)), .second, .val (.long v30), .second, .val (.int v31), .val (.long r53), .second, .unset, .unset] [(.long r53)])) rfl (hb hby at_141) _ (XS.lcmp X51.here hx rfl (hb hby at_144) rfl k)))) ?_
        show Comes p e below _ (T51.setTop (mkF m 145 #[.val (.long qid), .second, .val (.long qa), .second, .val (.long qi), .second, .val (.int fl), .val (.ref b1), .val (.long r27), .second, .val (.long (4294967295 : Int64)), .second, .val (.long v30), .second, .val (.int v31), .val (.long r53), .second, .unset, .unset] [(.int (lcmpW r53 (9223372036854775807 : Int64)))]))
        have hc145_57 : r53 = (9223372036854775807 : Int64) := by exact P51_0.elim (fun q => q.2) (fun q => q.elim (fun q => q.2.2) (fun q => absurd rfl q.1))
        refine Comes.st (fun t k => XS.ifNo X51.here hx rfl (hb hby at_145) rfl ((if0 _ _).trans (teq ((lw_eq _ _).mpr hc145_57)).2) (XS.iconst X51.here hx rfl (hb hby at_148) (XS.goto X51.here hx rfl (pc0 := 149) (pc' := 153) rfl (hb hby at_149) (by decide) (by decide) k))) ?_
        show Comes p e below _ (T51.setTop (mkF m 153 #[.val (.long qid), .second, .val (.long qa), .second, .val (.long qi), .second, .val (.int fl), .val (.ref b1), .val (.long r27), .second, .val (.long (4294967295 : Int64)), .second, .val (.long v30), .second, .val (.int v31), .val (.long r53), .second, .unset, .unset] [(.int (1 : Int32))]))
        have hkf : k12 ≤ h49.size := by omega
        exact Comes.wretN X51 hx (t := .boolean) Bd.returns (by simp) hlk (hb hby at_153) hS12 hkf hs51 ⟨rfl, N51⟩ (by decide) (by decide)
    · refine Comes.st (fun t k => XS.icmpYes X26.here hx rfl (pc0 := 65) (pc' := 76) rfl (hb hby at_65) rfl (feq hc65_44).2 (by decide) (by decide) (XS.iload X26.here hx rfl (hb hby at_76) rfl (XS.iconst X26.here hx rfl (hb hby at_78) k))) ?_
      show Comes p e below _ (T26.setTop (mkF m 79 #[.val (.long qid), .second, .val (.long qa), .second, .val (.long qi), .second, .val (.int fl), .val (.ref b1), .val (.long r27), .second, .val (.long v29), .second, .val (.long v30), .second, .val (.int v31), .unset, .unset, .unset, .unset] [(.int (2 : Int32)), (.int v31)]))
      by_cases hc79_58 : v31 = (2 : Int32)
      · refine Comes.st (fun t k => XS.icmpNo X26.here hx rfl (hb hby at_79) rfl (teq hc79_58).2 (X26.ldc2Long hx hown (mvT hZ (hw _ (List.mem_of_getElem? (i := 157) rfl))) (g := (mkF m 82 #[.val (.long qid), .second, .val (.long qa), .second, .val (.long qi), .second, .val (.int fl), .val (.ref b1), .val (.long r27), .second, .val (.long v29), .second, .val (.long v30), .second, .val (.int v31), .unset, .unset, .unset, .unset] [])) rfl (hb hby at_82) _ (XS.lstore X26.here hx rfl (hb hby at_85) rfl (l' := #[.val (.long qid), .second, .val (.long qa), .second, .val (.long qi), .second, .val (.int fl), .val (.ref b1), .val (.long r27), .second, .val (.long (4294967294 : Int64)), .second, .val (.long v30), .second, .val (.int v31), .unset, .unset, .unset, .unset]) rfl (XS.aload X26.here hx rfl (hb hby at_87) rfl rfl (XS.lload X26.here hx rfl (hb hby at_89) rfl k))))) ?_
        show Comes p e below _ (T26.setTop (mkF m 91 #[.val (.long qid), .second, .val (.long qa), .second, .val (.long qi), .second, .val (.int fl), .val (.ref b1), .val (.long r27), .second, .val (.long (4294967294 : Int64)), .second, .val (.long v30), .second, .val (.int v31), .unset, .unset, .unset, .unset] [(.long (4294967294 : Int64)), (.ref b1)]))
        obtain ⟨T59, h59, X59, e59, W59, st59⟩ := putF X26 hx hZ hown (host := "") (Or.inl (hw _ (List.mem_of_getElem? (i := 158) rfl))) Via.refl hs26 P24_1 P24_0 (Or.inl (hw _ (List.mem_of_getElem? (i := 44) rfl))) (hw _ (List.mem_of_getElem? (i := 1) rfl)) (ty := .long) (by decide) rfl rfl (g := (mkF m 91 #[.val (.long qid), .second, .val (.long qa), .second, .val (.long qi), .second, .val (.int fl), .val (.ref b1), .val (.long r27), .second, .val (.long (4294967294 : Int64)), .second, .val (.long v30), .second, .val (.int v31), .unset, .unset, .unset, .unset] [(.long (4294967294 : Int64)), (.ref b1)])) rfl rfl (hb hby at_91)
        have Fw59 := P24_1.same W59
        have z59 : h59.size = T24.heap.size := W59.size
        have gn60 : n0 ≤ b1 := by omega
        have N59 := Fr.snoc X59 N26 gn60
        refine Comes.st st59 ?_
        show Comes p e below _ (T59.setTop (mkF m 94 #[.val (.long qid), .second, .val (.long qa), .second, .val (.long qi), .second, .val (.int fl), .val (.ref b1), .val (.long r27), .second, .val (.long (4294967294 : Int64)), .second, .val (.long v30), .second, .val (.int v31), .unset, .unset, .unset, .unset] []))
        refine Comes.st (fun t k => XS.aload X59.here hx rfl (hb hby at_94) rfl rfl (XS.lload X59.here hx rfl (hb hby at_96) rfl k)) ?_
        show Comes p e below _ (T59.setTop (mkF m 98 #[.val (.long qid), .second, .val (.long qa), .second, .val (.long qi), .second, .val (.int fl), .val (.ref b1), .val (.long r27), .second, .val (.long (4294967294 : Int64)), .second, .val (.long v30), .second, .val (.int v31), .unset, .unset, .unset, .unset] [(.long v30), (.ref b1)]))
        have F61 : Exa Z h59 b1 "com/example/ferry2/ferry2/store/Session" := (P24_0.wr W59)
        have F62 : Fld Z h59 b1 "com/example/ferry2/ferry2/store/Session" "awaySince" "J" (.long (0 : Int64)) := (P24_2.other W59 (Or.inr (slot_ne (Or.inl (hw _ (List.mem_of_getElem? (i := 46) rfl))) (Or.inl (hw _ (List.mem_of_getElem? (i := 44) rfl))) (by decide) (t := .long) (t' := .long) (by decide) (by decide))))
        obtain ⟨T63, h63, X63, e63, W63, st63⟩ := putF X59 hx hZ hown (host := "") (Or.inl (hw _ (List.mem_of_getElem? (i := 159) rfl))) Via.refl e59 F62 F61 (Or.inl (hw _ (List.mem_of_getElem? (i := 46) rfl))) (hw _ (List.mem_of_getElem? (i := 1) rfl)) (ty := .long) (by decide) rfl rfl (g := (mkF m 98 #[.val (.long qid), .second, .val (.long qa), .second, .val (.long qi), .second, .val (.int fl), .val (.ref b1), .val (.long r27), .second, .val (.long (4294967294 : Int64)), .second, .val (.long v30), .second, .val (.int v31), .unset, .unset, .unset, .unset] [(.long v30), (.ref b1)])) rfl rfl (hb hby at_98)
        have Fw63 := F62.same W63
        have z63 : h63.size = h59.size := W63.size
        have N63 := Fr.snoc X63 N59 gn60
        refine Comes.st st63 ?_
        show Comes p e below _ (T63.setTop (mkF m 101 #[.val (.long qid), .second, .val (.long qa), .second, .val (.long qi), .second, .val (.int fl), .val (.ref b1), .val (.long r27), .second, .val (.long (4294967294 : Int64)), .second, .val (.long v30), .second, .val (.int v31), .unset, .unset, .unset, .unset] []))
        refine Comes.st (fun t k => XS.aload X63.here hx rfl (hb hby at_101) rfl rfl k) ?_
        show Comes p e below _ (T63.setTop (mkF m 103 #[.val (.long qid), .second, .val (.long qa), .second, .val (.long qi), .second, .val (.int fl), .val (.ref b1), .val (.long r27), .second, .val (.long (4294967294 : Int64)), .second, .val (.long v30), .second, .val (.int v31), .unset, .unset, .unset, .unset] [(.ref b1)]))
        have F64 : Fld Z h63 b1 "com/example/ferry2/ferry2/store/Session" "expiryInterval" "J" (.long (4294967294 : Int64)) := (Fw59.other W63 (Or.inr (slot_ne (Or.inl (hw _ (List.mem_of_getElem? (i := 44) rfl))) (Or.inl (hw _ (List.mem_of_getElem? (i := 46) rfl))) (by decide) (t := .long) (t' := .long) (by decide) (by decide))))
        have F66 : Exa Z h63 b1 "com/example/ferry2/ferry2/store/Session" := (F61.wr W63)
        obtain ⟨cq65, kq65, q65a, q65b, q65c⟩ := isOf hZ e63 F66
        obtain ⟨_, _, ⟨T65, L65, k65, n65⟩, -, X65, ⟨Lc65, hQ65, l65, y65, z65⟩, st65⟩ := X63.virtualBack hx (y := (⟨"com/example/ferry2/ferry2/store/Session", "expiry", "()J"⟩ : MethodName)) (z := (⟨"com/example/ferry2/ferry2/store/Session", "expiry", "()J"⟩ : MethodName)) hown (mvT hZ (hw _ (List.mem_of_getElem? (i := 148) rfl))) (mvT hZ (hw _ (List.mem_of_getElem? (i := 149) rfl))) (notFace_of_selects (args := #[]) (mvT hZ (hw _ (List.mem_of_getElem? (i := 151) rfl)))) (mvT hZ (hw _ (List.mem_of_getElem? (i := 151) rfl))) (mvT hZ (hw _ (List.mem_of_getElem? (i := 150) rfl))) (by decide) (backOf (W := 0) (rm18 l Z a0 hw [] b1 ((4294967294 : Int64)) v30 h63 n0 (by omega)  F64 Fw63) hZ (hw _ (List.mem_of_getElem? (i := 152) rfl)) (hw _ (List.mem_of_getElem? (i := 2) rfl)) (by decide) (by decide)) q65a q65c (g := (mkF m 103 #[.val (.long qid), .second, .val (.long qa), .second, .val (.long qi), .second, .val (.int fl), .val (.ref b1), .val (.long r27), .second, .val (.long (4294967294 : Int64)), .second, .val (.long v30), .second, .val (.int v31), .unset, .unset, .unset, .unset] [(.ref b1)])) rfl (by rw [hml]; rfl) (Steps.refl _) (argsL := []) (rest := []) (lenOf pd_7 rfl) rfl (by show 2 * 0 + _ ≤ _; exact Nat.le_of_eq rfl) (hb hby at_103) (fun _ _ => ⟨rfl, e63, (by decide : 12 + 0 ≤ _), (by decide : 94 + 0 ≤ _)⟩)
        dsimp only [Pt.U, Pt.locs, Pt.cells, Pt.slots] at X65 l65 y65 z65 st65 hQ65
        subst l65 y65 z65
        obtain ⟨r67, rfl, Nq65, hs65, P65_0⟩ := hQ65
        have N65 := Fr.app N63 Nq65
        refine Comes.go st65 ?_
        show Comes p e below _ (T65.setTop (mkF m 106 #[.val (.long qid), .second, .val (.long qa), .second, .val (.long qi), .second, .val (.int fl), .val (.ref b1), .val (.long r27), .second, .val (.long (4294967294 : Int64)), .second, .val (.long v30), .second, .val (.int v31), .unset, .unset, .unset, .unset] [(.long r67)]))
        refine Comes.st (fun t k => XS.lstore X65.here hx rfl (hb hby at_106) rfl (l' := #[.val (.long qid), .second, .val (.long qa), .second, .val (.long qi), .second, .val (.int fl), .val (.ref b1), .val (.long r27), .second, .val (.long (4294967294 : Int64)), .second, .val (.long v30), .second, .val (.int v31), .val (.long r67), .second, .unset, .unset]) rfl (XS.lload X65.here hx rfl (hb hby at_108) rfl (XS.lconst X65.here hx rfl (hb hby at_110) (XS.lcmp X65.here hx rfl (hb hby at_111) rfl k)))) ?_
        show Comes p e below _ (T65.setTop (mkF m 112 #[.val (.long qid), .second, .val (.long qa), .second, .val (.long qi), .second, .val (.int fl), .val (.ref b1), .val (.long r27), .second, .val (.long (4294967294 : Int64)), .second, .val (.long v30), .second, .val (.int v31), .val (.long r67), .second, .unset, .unset] [(.int (lcmpW v30 (0 : Int64)))]))
        by_cases hc112_68 : v30 = (0 : Int64)
        · refine Comes.st (fun t k => XS.ifNo X65.here hx rfl (hb hby at_112) rfl ((if0 _ _).trans (teq ((lw_eq _ _).mpr hc112_68)).2) (XS.lload X65.here hx rfl (hb hby at_115) rfl (X65.ldc2Long hx hown (mvT hZ (hw _ (List.mem_of_getElem? (i := 154) rfl))) (g := (mkF m 117 #[.val (.long qid), .second, .val (.long qa), .second, .val (.long qi), .second, .val (.int fl), .val (.ref b1), .val (.long r27), .second, .val (.long (4294967294 : Int64)), .second, .val (.long v30), .second, .val (.int v31), .val (.long r67), .second, .unset, .unset] [(.long r67)])) rfl (hb hby at_117) _ (XS.lcmp X65.here hx rfl (hb hby at_120) rfl k)))) ?_
          show Comes p e below _ (T65.setTop (mkF m 121 #[.val (.long qid), .second, .val (.long qa), .second, .val (.long qi), .second, .val (.int fl), .val (.ref b1), .val (.long r27), .second, .val (.long (4294967294 : Int64)), .second, .val (.long v30), .second, .val (.int v31), .val (.long r67), .second, .unset, .unset] [(.int (lcmpW r67 (9223372036854775807 : Int64)))]))
          have hc121_69 : r67 = (9223372036854775807 : Int64) := by exact P65_0.elim (fun q => q.2) (fun q => q.elim (fun q => q.2.2) (fun q => absurd hc112_68 q.2.1))
          refine Comes.st (fun t k => XS.ifNo X65.here hx rfl (hb hby at_121) rfl ((if0 _ _).trans (teq ((lw_eq _ _).mpr hc121_69)).2) (XS.iconst X65.here hx rfl (hb hby at_124) (XS.goto X65.here hx rfl (pc0 := 125) (pc' := 129) rfl (hb hby at_125) (by decide) (by decide) k))) ?_
          show Comes p e below _ (T65.setTop (mkF m 129 #[.val (.long qid), .second, .val (.long qa), .second, .val (.long qi), .second, .val (.int fl), .val (.ref b1), .val (.long r27), .second, .val (.long (4294967294 : Int64)), .second, .val (.long v30), .second, .val (.int v31), .val (.long r67), .second, .unset, .unset] [(.int (1 : Int32))]))
          have hkf : k12 ≤ h63.size := by omega
          exact Comes.wretN X65 hx (t := .boolean) Bd.returns (by simp) hlk (hb hby at_129) hS12 hkf hs65 ⟨rfl, N65⟩ (by decide) (by decide)
        · refine Comes.st (fun t k => XS.ifYes X65.here hx rfl (pc0 := 112) (pc' := 130) rfl (hb hby at_112) rfl ((if0 _ _).trans (feq (fun q => hc112_68 ((lw_eq _ _).mp q))).2) (by decide) (by decide) (XS.lload X65.here hx rfl (hb hby at_130) rfl (X65.ldc2Long hx hown (mvT hZ (hw _ (List.mem_of_getElem? (i := 155) rfl))) (g := (mkF m 132 #[.val (.long qid), .second, .val (.long qa), .second, .val (.long qi), .second, .val (.int fl), .val (.ref b1), .val (.long r27), .second, .val (.long (4294967294 : Int64)), .second, .val (.long v30), .second, .val (.int v31), .val (.long r67), .second, .unset, .unset] [(.long (4294967294 : Int64))])) rfl (hb hby at_132) _ (XS.lcmp X65.here hx rfl (hb hby at_135) rfl k)))) ?_
          show Comes p e below _ (T65.setTop (mkF m 136 #[.val (.long qid), .second, .val (.long qa), .second, .val (.long qi), .second, .val (.int fl), .val (.ref b1), .val (.long r27), .second, .val (.long (4294967294 : Int64)), .second, .val (.long v30), .second, .val (.int v31), .val (.long r67), .second, .unset, .unset] [(.int (lcmpW (4294967294 : Int64) (4294967295 : Int64)))]))
          have hc136_70 : ¬ ((4294967294 : Int64) = (4294967295 : Int64)) := by decide
          refine Comes.st (fun t k => XS.ifYes X65.here hx rfl (pc0 := 136) (pc' := 154) rfl (hb hby at_136) rfl ((if0 _ _).trans (feq (fun q => hc136_70 ((lw_eq _ _).mp q))).2) (by decide) (by decide) (XS.lload X65.here hx rfl (hb hby at_154) rfl (X65.ldc2Long hx hown (mvT hZ (hw _ (List.mem_of_getElem? (i := 161) rfl))) (g := (mkF m 156 #[.val (.long qid), .second, .val (.long qa), .second, .val (.long qi), .second, .val (.int fl), .val (.ref b1), .val (.long r27), .second, .val (.long (4294967294 : Int64)), .second, .val (.long v30), .second, .val (.int v31), .val (.long r67), .second, .unset, .unset] [(.long (4294967294 : Int64))])) rfl (hb hby at_156) _ (XS.lmul X65.here hx rfl (hb hby at_159) rfl k)))) ?_
          show Comes p e below _ (T65.setTop (mkF m 160 #[.val (.long qid), .second, .val (.long qa), .second, .val (.long qi), .second, .val (.int fl), .val (.ref b1), .val (.long r27), .second, .val (.long (4294967294 : Int64)), .second, .val (.long v30), .second, .val (.int v31), .val (.long r67), .second, .unset, .unset] [(.long ((4294967294 : Int64) * (1000 : Int64)))]))
          rw [show ((4294967294 : Int64) * (1000 : Int64)) = (4294967294000 : Int64) from by decide]
          show Comes p e below _ (T65.setTop (mkF m 160 #[.val (.long qid), .second, .val (.long qa), .second, .val (.long qi), .second, .val (.int fl), .val (.ref b1), .val (.long r27), .second, .val (.long (4294967294 : Int64)), .second, .val (.long v30), .second, .val (.int v31), .val (.long r67), .second, .unset, .unset] [(.long (4294967294000 : Int64))]))
          refine Comes.st (fun t k => XS.lstore X65.here hx rfl (hb hby at_160) rfl (l' := #[.val (.long qid), .second, .val (.long qa), .second, .val (.long qi), .second, .val (.int fl), .val (.ref b1), .val (.long r27), .second, .val (.long (4294967294 : Int64)), .second, .val (.long v30), .second, .val (.int v31), .val (.long r67), .second, .val (.long (4294967294000 : Int64)), .second]) rfl (XS.lload X65.here hx rfl (hb hby at_162) rfl (XS.lload X65.here hx rfl (hb hby at_164) rfl (XS.lload X65.here hx rfl (hb hby at_166) rfl (XS.ladd X65.here hx rfl (hb hby at_168) rfl (XS.lcmp X65.here hx rfl (hb hby at_169) rfl k)))))) ?_
          show Comes p e below _ (T65.setTop (mkF m 170 #[.val (.long qid), .second, .val (.long qa), .second, .val (.long qi), .second, .val (.int fl), .val (.ref b1), .val (.long r27), .second, .val (.long (4294967294 : Int64)), .second, .val (.long v30), .second, .val (.int v31), .val (.long r67), .second, .val (.long (4294967294000 : Int64)), .second] [(.int (lcmpW r67 (v30 + (4294967294000 : Int64))))]))
          have hc170_71 : r67 = (v30 + (4294967294000 : Int64)) := by exact P65_0.elim (fun q => absurd q.1 (by decide)) (fun q => q.elim (fun q => absurd q.2.1 hc112_68) (fun q => q.2.2.trans (congrArg (v30 + ·) (by decide))))
          refine Comes.st (fun t k => XS.ifNo X65.here hx rfl (hb hby at_170) rfl ((if0 _ _).trans (teq ((lw_eq _ _).mpr hc170_71)).2) (XS.lload X65.here hx rfl (hb hby at_173) rfl (XS.lload X65.here hx rfl (hb hby at_175) rfl (XS.lcmp X65.here hx rfl (hb hby at_177) rfl k)))) ?_
          show Comes p e below _ (T65.setTop (mkF m 178 #[.val (.long qid), .second, .val (.long qa), .second, .val (.long qi), .second, .val (.int fl), .val (.ref b1), .val (.long r27), .second, .val (.long (4294967294 : Int64)), .second, .val (.long v30), .second, .val (.int v31), .val (.long r67), .second, .val (.long (4294967294000 : Int64)), .second] [(.int (lcmpW r67 v30))]))
          have hc178_72 : ¬ (r67 < v30) := by exact (own_l1 r_v30 hc170_71).1
          refine Comes.st (fun t k => XS.ifNo X65.here hx rfl (hb hby at_178) rfl ((if0 _ _).trans (flt (fun q => hc178_72 ((lw_lt _ _).mp q))).1) (XS.lload X65.here hx rfl (hb hby at_181) rfl (X65.ldc2Long hx hown (mvT hZ (hw _ (List.mem_of_getElem? (i := 154) rfl))) (g := (mkF m 183 #[.val (.long qid), .second, .val (.long qa), .second, .val (.long qi), .second, .val (.int fl), .val (.ref b1), .val (.long r27), .second, .val (.long (4294967294 : Int64)), .second, .val (.long v30), .second, .val (.int v31), .val (.long r67), .second, .val (.long (4294967294000 : Int64)), .second] [(.long r67)])) rfl (hb hby at_183) _ (XS.lcmp X65.here hx rfl (hb hby at_186) rfl k)))) ?_
          show Comes p e below _ (T65.setTop (mkF m 187 #[.val (.long qid), .second, .val (.long qa), .second, .val (.long qi), .second, .val (.int fl), .val (.ref b1), .val (.long r27), .second, .val (.long (4294967294 : Int64)), .second, .val (.long v30), .second, .val (.int v31), .val (.long r67), .second, .val (.long (4294967294000 : Int64)), .second] [(.int (lcmpW r67 (9223372036854775807 : Int64)))]))
          have hc187_73 : ¬ (r67 = (9223372036854775807 : Int64)) := by exact (own_l1 r_v30 hc170_71).2
          refine Comes.st (fun t k => XS.ifNo X65.here hx rfl (hb hby at_187) rfl ((if0 _ _).trans (feq (fun q => hc187_73 ((lw_eq _ _).mp q))).1) (XS.iconst X65.here hx rfl (hb hby at_190) (XS.goto X65.here hx rfl (pc0 := 191) (pc' := 195) rfl (hb hby at_191) (by decide) (by decide) k))) ?_
          show Comes p e below _ (T65.setTop (mkF m 195 #[.val (.long qid), .second, .val (.long qa), .second, .val (.long qi), .second, .val (.int fl), .val (.ref b1), .val (.long r27), .second, .val (.long (4294967294 : Int64)), .second, .val (.long v30), .second, .val (.int v31), .val (.long r67), .second, .val (.long (4294967294000 : Int64)), .second] [(.int (1 : Int32))]))
          have hkf : k12 ≤ h63.size := by omega
          exact Comes.wretN X65 hx (t := .boolean) Bd.returns (by simp) hlk (hb hby at_195) hS12 hkf hs65 ⟨rfl, N65⟩ (by decide) (by decide)
      · refine Comes.st (fun t k => XS.icmpYes X26.here hx rfl (pc0 := 79) (pc' := 87) rfl (hb hby at_79) rfl (feq hc79_58).2 (by decide) (by decide) (XS.aload X26.here hx rfl (hb hby at_87) rfl rfl (XS.lload X26.here hx rfl (hb hby at_89) rfl k))) ?_
        show Comes p e below _ (T26.setTop (mkF m 91 #[.val (.long qid), .second, .val (.long qa), .second, .val (.long qi), .second, .val (.int fl), .val (.ref b1), .val (.long r27), .second, .val (.long v29), .second, .val (.long v30), .second, .val (.int v31), .unset, .unset, .unset, .unset] [(.long v29), (.ref b1)]))
        obtain ⟨T74, h74, X74, e74, W74, st74⟩ := putF X26 hx hZ hown (host := "") (Or.inl (hw _ (List.mem_of_getElem? (i := 158) rfl))) Via.refl hs26 P24_1 P24_0 (Or.inl (hw _ (List.mem_of_getElem? (i := 44) rfl))) (hw _ (List.mem_of_getElem? (i := 1) rfl)) (ty := .long) (by decide) rfl rfl (g := (mkF m 91 #[.val (.long qid), .second, .val (.long qa), .second, .val (.long qi), .second, .val (.int fl), .val (.ref b1), .val (.long r27), .second, .val (.long v29), .second, .val (.long v30), .second, .val (.int v31), .unset, .unset, .unset, .unset] [(.long v29), (.ref b1)])) rfl rfl (hb hby at_91)
        have Fw74 := P24_1.same W74
        have z74 : h74.size = T24.heap.size := W74.size
        have gn75 : n0 ≤ b1 := by omega
        have N74 := Fr.snoc X74 N26 gn75
        refine Comes.st st74 ?_
        show Comes p e below _ (T74.setTop (mkF m 94 #[.val (.long qid), .second, .val (.long qa), .second, .val (.long qi), .second, .val (.int fl), .val (.ref b1), .val (.long r27), .second, .val (.long v29), .second, .val (.long v30), .second, .val (.int v31), .unset, .unset, .unset, .unset] []))
        refine Comes.st (fun t k => XS.aload X74.here hx rfl (hb hby at_94) rfl rfl (XS.lload X74.here hx rfl (hb hby at_96) rfl k)) ?_
        show Comes p e below _ (T74.setTop (mkF m 98 #[.val (.long qid), .second, .val (.long qa), .second, .val (.long qi), .second, .val (.int fl), .val (.ref b1), .val (.long r27), .second, .val (.long v29), .second, .val (.long v30), .second, .val (.int v31), .unset, .unset, .unset, .unset] [(.long v30), (.ref b1)]))
        have F76 : Exa Z h74 b1 "com/example/ferry2/ferry2/store/Session" := (P24_0.wr W74)
        have F77 : Fld Z h74 b1 "com/example/ferry2/ferry2/store/Session" "awaySince" "J" (.long (0 : Int64)) := (P24_2.other W74 (Or.inr (slot_ne (Or.inl (hw _ (List.mem_of_getElem? (i := 46) rfl))) (Or.inl (hw _ (List.mem_of_getElem? (i := 44) rfl))) (by decide) (t := .long) (t' := .long) (by decide) (by decide))))
        obtain ⟨T78, h78, X78, e78, W78, st78⟩ := putF X74 hx hZ hown (host := "") (Or.inl (hw _ (List.mem_of_getElem? (i := 159) rfl))) Via.refl e74 F77 F76 (Or.inl (hw _ (List.mem_of_getElem? (i := 46) rfl))) (hw _ (List.mem_of_getElem? (i := 1) rfl)) (ty := .long) (by decide) rfl rfl (g := (mkF m 98 #[.val (.long qid), .second, .val (.long qa), .second, .val (.long qi), .second, .val (.int fl), .val (.ref b1), .val (.long r27), .second, .val (.long v29), .second, .val (.long v30), .second, .val (.int v31), .unset, .unset, .unset, .unset] [(.long v30), (.ref b1)])) rfl rfl (hb hby at_98)
        have Fw78 := F77.same W78
        have z78 : h78.size = h74.size := W78.size
        have N78 := Fr.snoc X78 N74 gn75
        refine Comes.st st78 ?_
        show Comes p e below _ (T78.setTop (mkF m 101 #[.val (.long qid), .second, .val (.long qa), .second, .val (.long qi), .second, .val (.int fl), .val (.ref b1), .val (.long r27), .second, .val (.long v29), .second, .val (.long v30), .second, .val (.int v31), .unset, .unset, .unset, .unset] []))
        refine Comes.st (fun t k => XS.aload X78.here hx rfl (hb hby at_101) rfl rfl k) ?_
        show Comes p e below _ (T78.setTop (mkF m 103 #[.val (.long qid), .second, .val (.long qa), .second, .val (.long qi), .second, .val (.int fl), .val (.ref b1), .val (.long r27), .second, .val (.long v29), .second, .val (.long v30), .second, .val (.int v31), .unset, .unset, .unset, .unset] [(.ref b1)]))
        have F79 : Fld Z h78 b1 "com/example/ferry2/ferry2/store/Session" "expiryInterval" "J" (.long v29) := (Fw74.other W78 (Or.inr (slot_ne (Or.inl (hw _ (List.mem_of_getElem? (i := 44) rfl))) (Or.inl (hw _ (List.mem_of_getElem? (i := 46) rfl))) (by decide) (t := .long) (t' := .long) (by decide) (by decide))))
        have F81 : Exa Z h78 b1 "com/example/ferry2/ferry2/store/Session" := (F76.wr W78)
        obtain ⟨cq80, kq80, q80a, q80b, q80c⟩ := isOf hZ e78 F81
        obtain ⟨_, _, ⟨T80, L80, k80, n80⟩, -, X80, ⟨Lc80, hQ80, l80, y80, z80⟩, st80⟩ := X78.virtualBack hx (y := (⟨"com/example/ferry2/ferry2/store/Session", "expiry", "()J"⟩ : MethodName)) (z := (⟨"com/example/ferry2/ferry2/store/Session", "expiry", "()J"⟩ : MethodName)) hown (mvT hZ (hw _ (List.mem_of_getElem? (i := 148) rfl))) (mvT hZ (hw _ (List.mem_of_getElem? (i := 149) rfl))) (notFace_of_selects (args := #[]) (mvT hZ (hw _ (List.mem_of_getElem? (i := 151) rfl)))) (mvT hZ (hw _ (List.mem_of_getElem? (i := 151) rfl))) (mvT hZ (hw _ (List.mem_of_getElem? (i := 150) rfl))) (by decide) (backOf (W := 0) (rm18 l Z a0 hw [] b1 v29 v30 h78 n0 (by omega)  F79 Fw78) hZ (hw _ (List.mem_of_getElem? (i := 152) rfl)) (hw _ (List.mem_of_getElem? (i := 2) rfl)) (by decide) (by decide)) q80a q80c (g := (mkF m 103 #[.val (.long qid), .second, .val (.long qa), .second, .val (.long qi), .second, .val (.int fl), .val (.ref b1), .val (.long r27), .second, .val (.long v29), .second, .val (.long v30), .second, .val (.int v31), .unset, .unset, .unset, .unset] [(.ref b1)])) rfl (by rw [hml]; rfl) (Steps.refl _) (argsL := []) (rest := []) (lenOf pd_7 rfl) rfl (by show 2 * 0 + _ ≤ _; exact Nat.le_of_eq rfl) (hb hby at_103) (fun _ _ => ⟨rfl, e78, (by decide : 12 + 0 ≤ _), (by decide : 94 + 0 ≤ _)⟩)
        dsimp only [Pt.U, Pt.locs, Pt.cells, Pt.slots] at X80 l80 y80 z80 st80 hQ80
        subst l80 y80 z80
        obtain ⟨r82, rfl, Nq80, hs80, P80_0⟩ := hQ80
        have N80 := Fr.app N78 Nq80
        refine Comes.go st80 ?_
        show Comes p e below _ (T80.setTop (mkF m 106 #[.val (.long qid), .second, .val (.long qa), .second, .val (.long qi), .second, .val (.int fl), .val (.ref b1), .val (.long r27), .second, .val (.long v29), .second, .val (.long v30), .second, .val (.int v31), .unset, .unset, .unset, .unset] [(.long r82)]))
        refine Comes.st (fun t k => XS.lstore X80.here hx rfl (hb hby at_106) rfl (l' := #[.val (.long qid), .second, .val (.long qa), .second, .val (.long qi), .second, .val (.int fl), .val (.ref b1), .val (.long r27), .second, .val (.long v29), .second, .val (.long v30), .second, .val (.int v31), .val (.long r82), .second, .unset, .unset]) rfl (XS.lload X80.here hx rfl (hb hby at_108) rfl (XS.lconst X80.here hx rfl (hb hby at_110) (XS.lcmp X80.here hx rfl (hb hby at_111) rfl k)))) ?_
        show Comes p e below _ (T80.setTop (mkF m 112 #[.val (.long qid), .second, .val (.long qa), .second, .val (.long qi), .second, .val (.int fl), .val (.ref b1), .val (.long r27), .second, .val (.long v29), .second, .val (.long v30), .second, .val (.int v31), .val (.long r82), .second, .unset, .unset] [(.int (lcmpW v30 (0 : Int64)))]))
        by_cases hc112_83 : v30 = (0 : Int64)
        · refine Comes.st (fun t k => XS.ifNo X80.here hx rfl (hb hby at_112) rfl ((if0 _ _).trans (teq ((lw_eq _ _).mpr hc112_83)).2) (XS.lload X80.here hx rfl (hb hby at_115) rfl (X80.ldc2Long hx hown (mvT hZ (hw _ (List.mem_of_getElem? (i := 154) rfl))) (g := (mkF m 117 #[.val (.long qid), .second, .val (.long qa), .second, .val (.long qi), .second, .val (.int fl), .val (.ref b1), .val (.long r27), .second, .val (.long v29), .second, .val (.long v30), .second, .val (.int v31), .val (.long r82), .second, .unset, .unset] [(.long r82)])) rfl (hb hby at_117) _ (XS.lcmp X80.here hx rfl (hb hby at_120) rfl k)))) ?_
          show Comes p e below _ (T80.setTop (mkF m 121 #[.val (.long qid), .second, .val (.long qa), .second, .val (.long qi), .second, .val (.int fl), .val (.ref b1), .val (.long r27), .second, .val (.long v29), .second, .val (.long v30), .second, .val (.int v31), .val (.long r82), .second, .unset, .unset] [(.int (lcmpW r82 (9223372036854775807 : Int64)))]))
          have hc121_84 : r82 = (9223372036854775807 : Int64) := by exact P80_0.elim (fun q => q.2) (fun q => q.elim (fun q => q.2.2) (fun q => absurd hc112_83 q.2.1))
          refine Comes.st (fun t k => XS.ifNo X80.here hx rfl (hb hby at_121) rfl ((if0 _ _).trans (teq ((lw_eq _ _).mpr hc121_84)).2) (XS.iconst X80.here hx rfl (hb hby at_124) (XS.goto X80.here hx rfl (pc0 := 125) (pc' := 129) rfl (hb hby at_125) (by decide) (by decide) k))) ?_
          show Comes p e below _ (T80.setTop (mkF m 129 #[.val (.long qid), .second, .val (.long qa), .second, .val (.long qi), .second, .val (.int fl), .val (.ref b1), .val (.long r27), .second, .val (.long v29), .second, .val (.long v30), .second, .val (.int v31), .val (.long r82), .second, .unset, .unset] [(.int (1 : Int32))]))
          have hkf : k12 ≤ h78.size := by omega
          exact Comes.wretN X80 hx (t := .boolean) Bd.returns (by simp) hlk (hb hby at_129) hS12 hkf hs80 ⟨rfl, N80⟩ (by decide) (by decide)
        · refine Comes.st (fun t k => XS.ifYes X80.here hx rfl (pc0 := 112) (pc' := 130) rfl (hb hby at_112) rfl ((if0 _ _).trans (feq (fun q => hc112_83 ((lw_eq _ _).mp q))).2) (by decide) (by decide) (XS.lload X80.here hx rfl (hb hby at_130) rfl (X80.ldc2Long hx hown (mvT hZ (hw _ (List.mem_of_getElem? (i := 155) rfl))) (g := (mkF m 132 #[.val (.long qid), .second, .val (.long qa), .second, .val (.long qi), .second, .val (.int fl), .val (.ref b1), .val (.long r27), .second, .val (.long v29), .second, .val (.long v30), .second, .val (.int v31), .val (.long r82), .second, .unset, .unset] [(.long v29)])) rfl (hb hby at_132) _ (XS.lcmp X80.here hx rfl (hb hby at_135) rfl k)))) ?_
          show Comes p e below _ (T80.setTop (mkF m 136 #[.val (.long qid), .second, .val (.long qa), .second, .val (.long qi), .second, .val (.int fl), .val (.ref b1), .val (.long r27), .second, .val (.long v29), .second, .val (.long v30), .second, .val (.int v31), .val (.long r82), .second, .unset, .unset] [(.int (lcmpW v29 (4294967295 : Int64)))]))
          by_cases hc136_85 : v29 = (4294967295 : Int64)
          · refine Comes.st (fun t k => XS.ifNo X80.here hx rfl (hb hby at_136) rfl ((if0 _ _).trans (teq ((lw_eq _ _).mpr hc136_85)).2) (XS.lload X80.here hx rfl (hb hby at_139) rfl (X80.ldc2Long hx hown (mvT hZ (hw _ (List.mem_of_getElem? (i := 154) rfl))) (g := (mkF m 141 #[.val (.long qid), .second, .val (.long qa), .second, .val (.long qi), .second, .val (.int fl), .val (.ref b1), .val (.long r27), .second, .val (.long v29), .second, .val (.long v30), .second, .val (.int v31), .val (.long r82), .second, .unset, .unset] [(.long r82)])) rfl (hb hby at_141) _ (XS.lcmp X80.here hx rfl (hb hby at_144) rfl k)))) ?_
            show Comes p e below _ (T80.setTop (mkF m 145 #[.val (.long qid), .second, .val (.long qa), .second, .val (.long qi), .second, .val (.int fl), .val (.ref b1), .val (.long r27), .second, .val (.long v29), .second, .val (.long v30), .second, .val (.int v31), .val (.long r82), .second, .unset, .unset] [(.int (lcmpW r82 (9223372036854775807 : Int64)))]))
            have hc145_86 : r82 = (9223372036854775807 : Int64) := by exact P80_0.elim (fun q => q.2) (fun q => q.elim (fun q => q.2.2) (fun q => absurd hc136_85 q.1))
            refine Comes.st (fun t k => XS.ifNo X80.here hx rfl (hb hby at_145) rfl ((if0 _ _).trans (teq ((lw_eq _ _).mpr hc145_86)).2) (XS.iconst X80.here hx rfl (hb hby at_148) (XS.goto X80.here hx rfl (pc0 := 149) (pc' := 153) rfl (hb hby at_149) (by decide) (by decide) k))) ?_
            show Comes p e below _ (T80.setTop (mkF m 153 #[.val (.long qid), .second, .val (.long qa), .second, .val (.long qi), .second, .val (.int fl), .val (.ref b1), .val (.long r27), .second, .val (.long v29), .second, .val (.long v30), .second, .val (.int v31), .val (.long r82), .second, .unset, .unset] [(.int (1 : Int32))]))
            have hkf : k12 ≤ h78.size := by omega
            exact Comes.wretN X80 hx (t := .boolean) Bd.returns (by simp) hlk (hb hby at_153) hS12 hkf hs80 ⟨rfl, N80⟩ (by decide) (by decide)
          · refine Comes.st (fun t k => XS.ifYes X80.here hx rfl (pc0 := 136) (pc' := 154) rfl (hb hby at_136) rfl ((if0 _ _).trans (feq (fun q => hc136_85 ((lw_eq _ _).mp q))).2) (by decide) (by decide) (XS.lload X80.here hx rfl (hb hby at_154) rfl (X80.ldc2Long hx hown (mvT hZ (hw _ (List.mem_of_getElem? (i := 161) rfl))) (g := (mkF m 156 #[.val (.long qid), .second, .val (.long qa), .second, .val (.long qi), .second, .val (.int fl), .val (.ref b1), .val (.long r27), .second, .val (.long v29), .second, .val (.long v30), .second, .val (.int v31), .val (.long r82), .second, .unset, .unset] [(.long v29)])) rfl (hb hby at_156) _ (XS.lmul X80.here hx rfl (hb hby at_159) rfl k)))) ?_
            show Comes p e below _ (T80.setTop (mkF m 160 #[.val (.long qid), .second, .val (.long qa), .second, .val (.long qi), .second, .val (.int fl), .val (.ref b1), .val (.long r27), .second, .val (.long v29), .second, .val (.long v30), .second, .val (.int v31), .val (.long r82), .second, .unset, .unset] [(.long (v29 * (1000 : Int64)))]))
            generalize hv_v87 : (v29 * (1000 : Int64)) = v87
            show Comes p e below _ (T80.setTop (mkF m 160 #[.val (.long qid), .second, .val (.long qa), .second, .val (.long qi), .second, .val (.int fl), .val (.ref b1), .val (.long r27), .second, .val (.long v29), .second, .val (.long v30), .second, .val (.int v31), .val (.long r82), .second, .unset, .unset] [(.long v87)]))
            refine Comes.st (fun t k => XS.lstore X80.here hx rfl (hb hby at_160) rfl (l' := #[.val (.long qid), .second, .val (.long qa), .second, .val (.long qi), .second, .val (.int fl), .val (.ref b1), .val (.long r27), .second, .val (.long v29), .second, .val (.long v30), .second, .val (.int v31), .val (.long r82), .second, .val (.long v87), .second]) rfl (XS.lload X80.here hx rfl (hb hby at_162) rfl (XS.lload X80.here hx rfl (hb hby at_164) rfl (XS.lload X80.here hx rfl (hb hby at_166) rfl (XS.ladd X80.here hx rfl (hb hby at_168) rfl (XS.lcmp X80.here hx rfl (hb hby at_169) rfl k)))))) ?_
            show Comes p e below _ (T80.setTop (mkF m 170 #[.val (.long qid), .second, .val (.long qa), .second, .val (.long qi), .second, .val (.int fl), .val (.ref b1), .val (.long r27), .second, .val (.long v29), .second, .val (.long v30), .second, .val (.int v31), .val (.long r82), .second, .val (.long v87), .second] [(.int (lcmpW r82 (v30 + v87)))]))
            have hc170_88 : r82 = (v30 + v87) := by exact P80_0.elim (fun q => absurd q.1 hc136_85) (fun q => q.elim (fun q => absurd q.2.1 hc112_83) (fun q => q.2.2.trans (congrArg (v30 + ·) hv_v87)))
            refine Comes.st (fun t k => XS.ifNo X80.here hx rfl (hb hby at_170) rfl ((if0 _ _).trans (teq ((lw_eq _ _).mpr hc170_88)).2) (XS.lload X80.here hx rfl (hb hby at_173) rfl (XS.lload X80.here hx rfl (hb hby at_175) rfl (XS.lcmp X80.here hx rfl (hb hby at_177) rfl k)))) ?_
            show Comes p e below _ (T80.setTop (mkF m 178 #[.val (.long qid), .second, .val (.long qa), .second, .val (.long qi), .second, .val (.int fl), .val (.ref b1), .val (.long r27), .second, .val (.long v29), .second, .val (.long v30), .second, .val (.int v31), .val (.long r82), .second, .val (.long v87), .second] [(.int (lcmpW r82 v30))]))
            have hc178_89 : ¬ (r82 < v30) := by exact (own_l2 r_v30 r_v29 hv_v87 hc170_88).1
            refine Comes.st (fun t k => XS.ifNo X80.here hx rfl (hb hby at_178) rfl ((if0 _ _).trans (flt (fun q => hc178_89 ((lw_lt _ _).mp q))).1) (XS.lload X80.here hx rfl (hb hby at_181) rfl (X80.ldc2Long hx hown (mvT hZ (hw _ (List.mem_of_getElem? (i := 154) rfl))) (g := (mkF m 183 #[.val (.long qid), .second, .val (.long qa), .second, .val (.long qi), .second, .val (.int fl), .val (.ref b1), .val (.long r27), .second, .val (.long v29), .second, .val (.long v30), .second, .val (.int v31), .val (.long r82), .second, .val (.long v87), .second] [(.long r82)])) rfl (hb hby at_183) _ (XS.lcmp X80.here hx rfl (hb hby at_186) rfl k)))) ?_
            show Comes p e below _ (T80.setTop (mkF m 187 #[.val (.long qid), .second, .val (.long qa), .second, .val (.long qi), .second, .val (.int fl), .val (.ref b1), .val (.long r27), .second, .val (.long v29), .second, .val (.long v30), .second, .val (.int v31), .val (.long r82), .second, .val (.long v87), .second] [(.int (lcmpW r82 (9223372036854775807 : Int64)))]))
            have hc187_90 : ¬ (r82 = (9223372036854775807 : Int64)) := by exact (own_l2 r_v30 r_v29 hv_v87 hc170_88).2
            refine Comes.st (fun t k => XS.ifNo X80.here hx rfl (hb hby at_187) rfl ((if0 _ _).trans (feq (fun q => hc187_90 ((lw_eq _ _).mp q))).1) (XS.iconst X80.here hx rfl (hb hby at_190) (XS.goto X80.here hx rfl (pc0 := 191) (pc' := 195) rfl (hb hby at_191) (by decide) (by decide) k))) ?_
            show Comes p e below _ (T80.setTop (mkF m 195 #[.val (.long qid), .second, .val (.long qa), .second, .val (.long qi), .second, .val (.int fl), .val (.ref b1), .val (.long r27), .second, .val (.long v29), .second, .val (.long v30), .second, .val (.int v31), .val (.long r82), .second, .val (.long v87), .second] [(.int (1 : Int32))]))
            have hkf : k12 ≤ h78.size := by omega
            exact Comes.wretN X80 hx (t := .boolean) Bd.returns (by simp) hlk (hb hby at_195) hS12 hkf hs80 ⟨rfl, N80⟩ (by decide) (by decide)
set_option maxRecDepth 65536 in
set_option maxHeartbeats 40000000 in
theorem comes_1 {Post : Tables → Env → Array Value → State → Outcome → State → Prop} (hpost : ∀ tb e args s v u, (limb_1_1.after args s (.returned v) u = true ∧ limb_1_2.after args s (.returned v) u = true ∧ True) → ReturnedEndW s (.returned v) u (Jvm.fieldLocs frame_1_writes args s ++ Jvm.arrayLocs frame_1_arrays args s ++ Jvm.staticLocs frame_1_statics s) 32 1280 → Post tb e args s (.returned v) u) :
    ArmFor flags0 classFile x code maxLocals ret World_1 tables_1 room_1 Calls_1 rest_1 Pre_1 Post := by
  intro l hfl _ _ p e ha hc hk s m args below hf hA hF happ hP
  obtain ⟨hcalls, hrest, hpre⟩ := hP
  obtain ⟨-, -, -, hnamed, -, -, -, hat⟩ := (Spec.applies_iff hf).mp happ
  obtain ⟨hg, hn⟩ := and_e (Cond.before_iff.mp (show (Jvm.Cond.and given_1 narrow_1).before args s = true from hpre))
  obtain ⟨c0, d0⟩ := and_e hg
  obtain ⟨c1, d1⟩ := and_e d0
  obtain ⟨c2, d2⟩ := and_e d1
  obtain ⟨c3, d3⟩ := and_e d2
  obtain ⟨w0, w1, w2, w3, rfl⟩ : ∃ w0 w1 w2 w3 : Value, args = #[w0, w1, w2, w3] := by
    have hs : args.size = 4 := by simpa [Cond.value, given_1] using c0
    obtain ⟨L⟩ := args
    match L, hs with
    | [w0, w1, w2, w3], _ => exact ⟨w0, w1, w2, w3, rfl⟩
  have hw := fun d (hd : d ∈ tables_1) => atoms_spec (ws := Jvm.Cond.code x code maxLocals ret :: tables_1) hat d (List.mem_cons_of_mem _ hd)
  have hfit : Fit s := fun {y c} hc i hi => by
    obtain ⟨ha, rfl⟩ := Array.getElem?_eq_some_iff.mp hc
    have q := List.all_eq_true.mp ((Array.all_eq_true_iff_forall_mem.mp hF) _ (Array.getElem_mem ha)) i (List.mem_range.mpr hi)
    simpa [Array.getElem?_eq_getElem hi] using q
  obtain ⟨i0, ei0⟩ := isL_v c1
  obtain rfl : w0 = (.long i0) := Option.some.inj ei0
  obtain ⟨i1, ei1⟩ := isL_v c2
  obtain rfl : w1 = (.long i1) := Option.some.inj ei1
  obtain ⟨i2, ei2⟩ := isL_v c3
  obtain rfl : w2 = (.long i2) := Option.some.inj ei2
  obtain ⟨i3, ei3⟩ := is_v d3
  obtain rfl : w3 = (.int i3) := Option.some.inj ei3
  obtain ⟨n, o, h1, h2, h3, _, L, rfl, ⟨rfl, N⟩, hq⟩ := rm0 l s _ hw tables_1 i0 i1 i2 i3 s.heap s.heap.size (Nat.le_refl _)  p e ha hc hk s m _ below hf ((Spec.applies_iff_loose hf).mp happ).1 ⟨rfl, State.Warmed39.refl s, rfl⟩ trivial
  refine ⟨n, _, h1, h2, h3, hpost _ _ _ _ _ _ ⟨Cond.after_iff.mpr rfl, Cond.after_iff.mpr (eq_i res_at (Term.int_eval (1)) rfl), trivial⟩ ⟨hq.1, hq.2.1, hq.2.2.1, (hq.2.2.2.sift fun y hy => Or.inr (N y hy)).mono (by decide) (by decide)⟩⟩
theorem main_1_1 : Claimed_1_1 := comes_1 fun _ _ _ _ _ _ h hF => ⟨h.1, hF⟩
theorem main_1_2 : Claimed_1_2 := comes_1 fun _ _ _ _ _ _ h hF => ⟨h.2.1, hF⟩
end Jvm.Pilot.@@N@@
namespace Jvm.Pilot.@@N@@
open Jvm Jvm.ClassFile Sem Op Lib Jvm.Free Jvm.Stand Jvm.Pilot.@@N@@.Jvm.D
/-! MADE BY PROGRAM (witnessworld.py) out of the Statement's table words and the real class files: 35 classes; the members and pool entries that the words name. The judged class is class 1, her method 1. -/
namespace start1
open Jvm.ClassFile
def u (s : String) : CpInfo := .utf8 (stringToUtf16 s)
/-- a pool by its gaps: so many unusable entries, then the entry; so many at the end -/
def gap : Nat → List CpInfo → List CpInfo
  | 0, r => r
  | n + 1, r => .unusable :: gap n r
def poolList (es : List (Nat × CpInfo)) (last : Nat) : List CpInfo := es.foldr (fun e r => gap e.1 (e.2 :: r)) (gap last [])
def pool (es : List (Nat × CpInfo)) (last : Nat) : Array CpInfo := ⟨poolList es last⟩
def fileOf (pool : Array CpInfo) (this : Nat) (attrs : Array Attribute := #[]) (ms : Array MethodInfo := #[]) (fl : Nat := 33) (sup : Nat := 0) (ifs : Array Nat := #[]) (fds : Array FieldInfo := #[]) : ClassFile where
  minorVersion := 0
  majorVersion := 65
  constantPool := pool
  accessFlags := fl
  thisClass := this
  superClass := sup
  interfaces := ifs
  fields := fds
  methods := ms
  attributes := attrs
def plain (name : String) (sup : Option ClassId) : Class where
  name := name
  kind := .ordinary
  loader := none
  accessFlags := 33
  super := sup
  interfaces := #[]
  cf := none
  fields := #[]
  methods := #[]
  instanceTypes := #[]
  staticTypes := #[]
  resolved := #[]
  callSites := []
  init := .initialized
  statics := none
  mirror := none

def pool0 : Array CpInfo := pool [(5, u "<init>"), (0, u "()V"), (1, .class_ 10), (1, u "java/lang/Object")] 113

def k0c0 : Code := { maxStack := 0, maxLocals := 1, code := object_method_1_code, exceptionTable := #[], attributes := #[] }
def k0m0 : Method := { name := "<init>", desc := "()V", sig := { parameters := [], returnType := none }, accessFlags := 1, code := some k0c0 }
/-- java/lang/Object -/
def k0 : Class := { plain "java/lang/Object" none with
  accessFlags := 33
  interfaces := #[]
  cf := some (fileOf pool0 8 #[] #[{ accessFlags := 1, nameIndex := 5, descriptorIndex := 6, attributes := #[] }] 33 0 #[] #[])
  fields := #[]
  methods := #[k0m0]
  instanceTypes := #[]
  staticTypes := #[]
  resolved := Array.replicate 124 none
  statics := none }

def pool1 : Array CpInfo := pool [(2, .class_ 4), (1, u "java/lang/Object"), (0, u "<init>"), (0, u "()V"), (0, .class_ 8), (0, u "com/example/ferry2/ferry2/store/Session"), (0, .string 10), (0, u "c"), (0, .methodref 7 12), (0, .nameAndType 5 13), (0, u "(JLjava/lang/String;)V"), (0, .methodref 7 15), (0, .nameAndType 16 17), (0, u "expiry"), (0, u "()J"), (2, .long 9223372036854775807), (1, .long 4294967295), (1, .long 4611686018427387903), (1, .long 4294967294), (1, .fieldref 7 29), (0, .nameAndType 30 31), (0, u "expiryInterval"), (0, u "J"), (0, .fieldref 7 33), (0, .nameAndType 34 31), (0, u "awaySince"), (0, .long 1000), (1, .class_ 38), (0, u "com/example/ferry2/ferry2/store/SessionExpiryPinLaw"), (2, u "law"), (0, u "(JJJI)Z")] 3

def k1m0 : Method := { name := "<init>", desc := "()V", sig := { parameters := [], returnType := none }, accessFlags := 1, code := none }
def k1c1 : Code := { maxStack := 6, maxLocals := 19, code := code, exceptionTable := #[], attributes := #[] }
def k1m1 : Method := { name := "law", desc := "(JJJI)Z", sig := { parameters := [.long, .long, .long, .int], returnType := some .boolean }, accessFlags := 9, code := some k1c1 }
/-- com/example/ferry2/ferry2/store/SessionExpiryPinLaw -/
def k1 : Class := { plain "com/example/ferry2/ferry2/store/SessionExpiryPinLaw" (some 0) with
  accessFlags := 49
  interfaces := #[]
  cf := some (fileOf pool1 37 #[] #[{ accessFlags := 1, nameIndex := 5, descriptorIndex := 6, attributes := #[] }, { accessFlags := 9, nameIndex := 41, descriptorIndex := 42, attributes := #[] }] 49 2 #[] #[])
  fields := #[]
  methods := #[k1m0, k1m1]
  instanceTypes := #[]
  staticTypes := #[]
  resolved := Array.replicate 46 none
  statics := none }

def pool2 : Array CpInfo := pool [(1, .methodref 2 3), (0, .class_ 4), (0, .nameAndType 5 6), (0, u "java/lang/Object"), (0, u "<init>"), (0, u "()V"), (0, .class_ 8), (0, u "com/example/ferry2/ferry2/store/PendingMessages"), (0, .methodref 7 3), (0, .fieldref 11 12), (0, .class_ 13), (0, .nameAndType 14 15), (0, u "com/example/ferry2/ferry2/store/Endpoint"), (0, u "pending"), (0, u "Lcom/example/ferry2/ferry2/store/PendingMessages;"), (0, .fieldref 11 17), (0, .nameAndType 18 19), (0, u "id"), (0, u "J"), (12, u "memoryBytes"), (0, u "(J)V")] 18

def k2c0 : Code := { maxStack := 3, maxLocals := 3, code := prog_37_method_1_code, exceptionTable := #[], attributes := #[] }
def k2m0 : Method := { name := "<init>", desc := "(J)V", sig := { parameters := [.long], returnType := none }, accessFlags := 0, code := some k2c0 }
/-- com/example/ferry2/ferry2/store/Endpoint -/
def k2 : Class := { plain "com/example/ferry2/ferry2/store/Endpoint" (some 0) with
  accessFlags := 1057
  interfaces := #[]
  cf := some (fileOf pool2 11 #[] #[{ accessFlags := 0, nameIndex := 5, descriptorIndex := 33, attributes := #[] }] 1057 2 #[] #[{ accessFlags := 16, nameIndex := 18, descriptorIndex := 19, attributes := #[] }, { accessFlags := 16, nameIndex := 14, descriptorIndex := 15, attributes := #[] }, { accessFlags := 0, nameIndex := 32, descriptorIndex := 19, attributes := #[] }])
  fields := #[{ name := "id", type := .long, accessFlags := 16, slot := 0, constantValue := 0 }, { name := "pending", type := (.object "com/example/ferry2/ferry2/store/PendingMessages"), accessFlags := 16, slot := 1, constantValue := 0 }, { name := "memoryBytes", type := .long, accessFlags := 0, slot := 2, constantValue := 0 }]
  methods := #[k2m0]
  instanceTypes := #[.long, (.object "com/example/ferry2/ferry2/store/PendingMessages"), .long]
  staticTypes := #[]
  resolved := Array.replicate 52 none
  statics := none }

def pool3 : Array CpInfo := pool [(1, .methodref 2 3), (0, .class_ 4), (0, .nameAndType 5 6), (0, u "com/example/ferry2/ferry2/store/Endpoint"), (0, u "<init>"), (0, u "(J)V"), (0, .class_ 8), (0, u "com/example/ferry2/ferry2/store/Session"), (0, .long 4294967295), (1, .fieldref 7 12), (0, .nameAndType 13 14), (0, u "expiryInterval"), (0, u "J"), (0, .fieldref 7 16), (0, .nameAndType 17 14), (0, u "awaySince"), (0, .class_ 19), (0, u "java/util/LinkedHashMap"), (0, .methodref 18 21), (0, .nameAndType 5 22), (0, u "()V"), (0, .fieldref 7 24), (0, .nameAndType 25 26), (0, u "subscriptions"), (0, u "Ljava/util/Map;"), (0, .class_ 28), (0, u "java/util/HashMap"), (0, .methodref 27 21), (0, .fieldref 7 31), (0, .nameAndType 32 26), (0, u "deliveries"), (0, .fieldref 7 34), (0, .nameAndType 35 26), (0, u "packetIds"), (0, .class_ 37), (0, u "java/util/LinkedHashSet"), (0, .methodref 36 21), (0, .fieldref 7 40), (0, .nameAndType 41 42), (0, u "awaitingCompletion"), (0, u "Ljava/util/Set;"), (0, .class_ 44), (0, u "java/util/HashSet"), (0, .methodref 43 21), (0, .fieldref 7 47), (0, .nameAndType 48 42), (0, u "awaitingRelease"), (0, .fieldref 7 50), (0, .nameAndType 51 52), (0, u "clientId"), (0, u "Ljava/lang/String;"), (2, .long 9223372036854775807), (1, .long 1000), (21, u "directBytes"), (16, u "NEVER_EXPIRES"), (1, u "CONNECTED"), (7, u "(JLjava/lang/String;)V"), (3, u "()J"), (0, u "expiry")] 28

def k3c0 : Code := { maxStack := 3, maxLocals := 4, code := prog_43_method_1_code, exceptionTable := #[], attributes := #[] }
def k3m0 : Method := { name := "<init>", desc := "(JLjava/lang/String;)V", sig := { parameters := [.long, (.object "java/lang/String")], returnType := none }, accessFlags := 0, code := some k3c0 }
def k3c1 : Code := { maxStack := 6, maxLocals := 1, code := prog_43_method_5_code, exceptionTable := #[], attributes := #[] }
def k3m1 : Method := { name := "expiry", desc := "()J", sig := { parameters := [], returnType := some .long }, accessFlags := 1, code := some k3c1 }
/-- com/example/ferry2/ferry2/store/Session -/
def k3 : Class := { plain "com/example/ferry2/ferry2/store/Session" (some 2) with
  accessFlags := 49
  interfaces := #[]
  cf := some (fileOf pool3 7 #[] #[{ accessFlags := 0, nameIndex := 5, descriptorIndex := 106, attributes := #[] }, { accessFlags := 1, nameIndex := 111, descriptorIndex := 110, attributes := #[] }] 49 2 #[] #[{ accessFlags := 25, nameIndex := 96, descriptorIndex := 14, attributes := #[] }, { accessFlags := 25, nameIndex := 98, descriptorIndex := 14, attributes := #[] }, { accessFlags := 18, nameIndex := 51, descriptorIndex := 52, attributes := #[] }, { accessFlags := 0, nameIndex := 13, descriptorIndex := 14, attributes := #[] }, { accessFlags := 0, nameIndex := 17, descriptorIndex := 14, attributes := #[] }, { accessFlags := 16, nameIndex := 25, descriptorIndex := 26, attributes := #[] }, { accessFlags := 16, nameIndex := 32, descriptorIndex := 26, attributes := #[] }, { accessFlags := 0, nameIndex := 79, descriptorIndex := 14, attributes := #[] }, { accessFlags := 16, nameIndex := 35, descriptorIndex := 26, attributes := #[] }, { accessFlags := 16, nameIndex := 41, descriptorIndex := 42, attributes := #[] }, { accessFlags := 16, nameIndex := 48, descriptorIndex := 42, attributes := #[] }])
  fields := #[{ name := "NEVER_EXPIRES", type := .long, accessFlags := 25, slot := 0, constantValue := 0 }, { name := "CONNECTED", type := .long, accessFlags := 25, slot := 1, constantValue := 0 }, { name := "clientId", type := (.object "java/lang/String"), accessFlags := 18, slot := 3, constantValue := 0 }, { name := "expiryInterval", type := .long, accessFlags := 0, slot := 4, constantValue := 0 }, { name := "awaySince", type := .long, accessFlags := 0, slot := 5, constantValue := 0 }, { name := "subscriptions", type := (.object "java/util/Map"), accessFlags := 16, slot := 6, constantValue := 0 }, { name := "deliveries", type := (.object "java/util/Map"), accessFlags := 16, slot := 7, constantValue := 0 }, { name := "directBytes", type := .long, accessFlags := 0, slot := 8, constantValue := 0 }, { name := "packetIds", type := (.object "java/util/Map"), accessFlags := 16, slot := 9, constantValue := 0 }, { name := "awaitingCompletion", type := (.object "java/util/Set"), accessFlags := 16, slot := 10, constantValue := 0 }, { name := "awaitingRelease", type := (.object "java/util/Set"), accessFlags := 16, slot := 11, constantValue := 0 }]
  methods := #[k3m0, k3m1]
  instanceTypes := #[.long, (.object "com/example/ferry2/ferry2/store/PendingMessages"), .long, (.object "java/lang/String"), .long, .long, (.object "java/util/Map"), (.object "java/util/Map"), .long, (.object "java/util/Map"), (.object "java/util/Set"), (.object "java/util/Set")]
  staticTypes := #[.long, .long]
  resolved := Array.replicate 140 none
  statics := none }

def pool4 : Array CpInfo := pool [(1, .class_ 2), (0, u "java/io/Serializable"), (0, .class_ 4), (0, u "java/lang/Object")] 2

/-- java/io/Serializable -/
def k4 : Class := { plain "java/io/Serializable" (some 0) with
  accessFlags := 1537
  interfaces := #[]
  cf := some (fileOf pool4 1 #[] #[] 1537 3 #[] #[])
  fields := #[]
  methods := #[]
  instanceTypes := #[]
  staticTypes := #[]
  resolved := Array.replicate 7 none
  statics := none }

def pool5 : Array CpInfo := pool [(1, .class_ 2), (0, u "java/lang/Comparable"), (0, .class_ 4), (0, u "java/lang/Object")] 7

/-- java/lang/Comparable -/
def k5 : Class := { plain "java/lang/Comparable" (some 0) with
  accessFlags := 1537
  interfaces := #[]
  cf := some (fileOf pool5 1 #[] #[] 1537 3 #[] #[])
  fields := #[]
  methods := #[]
  instanceTypes := #[]
  staticTypes := #[]
  resolved := Array.replicate 12 none
  statics := none }

def pool6 : Array CpInfo := pool [(2, .class_ 4), (1, u "java/lang/CharSequence"), (42, .class_ 48), (0, u "java/lang/CharSequence$1CodePointIterator"), (10, .class_ 60), (0, u "java/lang/CharSequence$1CharIterator"), (5, .class_ 67), (0, u "java/lang/Object")] 63

/-- java/lang/CharSequence -/
def k6 : Class := { plain "java/lang/CharSequence" (some 0) with
  accessFlags := 1537
  interfaces := #[]
  cf := some (fileOf pool6 2 #[.nestMembers #[47, 59]] #[] 1537 66 #[] #[])
  fields := #[]
  methods := #[]
  instanceTypes := #[]
  staticTypes := #[]
  resolved := Array.replicate 131 none
  statics := none }

def pool7 : Array CpInfo := pool [(1, .class_ 2), (0, u "java/lang/constant/Constable"), (0, .class_ 4), (0, u "java/lang/Object")] 6

/-- java/lang/constant/Constable -/
def k7 : Class := { plain "java/lang/constant/Constable" (some 0) with
  accessFlags := 1537
  interfaces := #[]
  cf := some (fileOf pool7 1 #[] #[] 1537 3 #[] #[])
  fields := #[]
  methods := #[]
  instanceTypes := #[]
  staticTypes := #[]
  resolved := Array.replicate 11 none
  statics := none }

def pool8 : Array CpInfo := pool [(1, .class_ 2), (0, u "java/lang/constant/ConstantDesc"), (0, .class_ 4), (0, u "java/lang/Object")] 32

/-- java/lang/constant/ConstantDesc -/
def k8 : Class := { plain "java/lang/constant/ConstantDesc" (some 0) with
  accessFlags := 1537
  interfaces := #[]
  cf := some (fileOf pool8 1 #[] #[] 1537 3 #[] #[])
  fields := #[]
  methods := #[]
  instanceTypes := #[]
  staticTypes := #[]
  resolved := Array.replicate 37 none
  statics := none }

def pool9 : Array CpInfo := pool [(2, .class_ 4), (1, u "java/lang/Object"), (0, u "<init>"), (0, u "()V"), (3, .class_ 12), (1, u "java/lang/String"), (0, u "value"), (0, u "[B"), (2, u "coder"), (0, u "B"), (2, u "hash"), (0, u "I"), (2, u "hashIsZero"), (0, u "Z"), (13, u "COMPACT_STRINGS"), (534, .class_ 576), (0, u "java/lang/CharSequence"), (22, u "CASE_INSENSITIVE_ORDER"), (0, u "Ljava/util/Comparator;"), (500, u "serialPersistentFields"), (0, u "[Ljava/io/ObjectStreamField;"), (0, .class_ 1104), (0, u "java/lang/String$CaseInsensitiveComparator"), (1, .class_ 1107), (0, u "java/io/Serializable"), (0, .class_ 1109), (0, u "java/lang/Comparable"), (0, .class_ 1111), (0, u "java/lang/constant/Constable"), (0, .class_ 1113), (0, u "java/lang/constant/ConstantDesc"), (2, u "serialVersionUID"), (0, u "J"), (3, u "REPL"), (0, u "C"), (2, u "LATIN1"), (1, u "UTF16")] 323

def k9m0 : Method := { name := "<init>", desc := "()V", sig := { parameters := [], returnType := none }, accessFlags := 1, code := none }
/-- java/lang/String -/
def k9 : Class := { plain "java/lang/String" (some 0) with
  accessFlags := 49
  interfaces := #[4, 5, 6, 7, 8]
  cf := some (fileOf pool9 10 #[.nestMembers #[1103]] #[{ accessFlags := 1, nameIndex := 5, descriptorIndex := 6, attributes := #[] }] 49 2 #[1106, 1108, 575, 1110, 1112] #[{ accessFlags := 18, nameIndex := 13, descriptorIndex := 14, attributes := #[] }, { accessFlags := 18, nameIndex := 17, descriptorIndex := 18, attributes := #[] }, { accessFlags := 2, nameIndex := 21, descriptorIndex := 22, attributes := #[] }, { accessFlags := 2, nameIndex := 25, descriptorIndex := 26, attributes := #[] }, { accessFlags := 26, nameIndex := 1116, descriptorIndex := 1117, attributes := #[] }, { accessFlags := 24, nameIndex := 40, descriptorIndex := 26, attributes := #[] }, { accessFlags := 26, nameIndex := 1101, descriptorIndex := 1102, attributes := #[] }, { accessFlags := 26, nameIndex := 1121, descriptorIndex := 1122, attributes := #[] }, { accessFlags := 25, nameIndex := 599, descriptorIndex := 600, attributes := #[] }, { accessFlags := 24, nameIndex := 1125, descriptorIndex := 18, attributes := #[] }, { accessFlags := 24, nameIndex := 1127, descriptorIndex := 18, attributes := #[] }])
  fields := #[{ name := "value", type := (.array .byte), accessFlags := 18, slot := 0, constantValue := 0 }, { name := "coder", type := .byte, accessFlags := 18, slot := 1, constantValue := 0 }, { name := "hash", type := .int, accessFlags := 2, slot := 2, constantValue := 0 }, { name := "hashIsZero", type := .boolean, accessFlags := 2, slot := 3, constantValue := 0 }, { name := "serialVersionUID", type := .long, accessFlags := 26, slot := 0, constantValue := 0 }, { name := "COMPACT_STRINGS", type := .boolean, accessFlags := 24, slot := 1, constantValue := 0 }, { name := "serialPersistentFields", type := (.array (.object "java/io/ObjectStreamField")), accessFlags := 26, slot := 2, constantValue := 0 }, { name := "REPL", type := .char, accessFlags := 26, slot := 3, constantValue := 0 }, { name := "CASE_INSENSITIVE_ORDER", type := (.object "java/util/Comparator"), accessFlags := 25, slot := 4, constantValue := 0 }, { name := "LATIN1", type := .byte, accessFlags := 24, slot := 5, constantValue := 0 }, { name := "UTF16", type := .byte, accessFlags := 24, slot := 6, constantValue := 0 }]
  methods := #[k9m0]
  instanceTypes := #[(.array .byte), .byte, .int, .boolean]
  staticTypes := #[.long, .boolean, (.array (.object "java/io/ObjectStreamField")), .char, (.object "java/util/Comparator"), .byte, .byte]
  resolved := Array.replicate 1451 none
  statics := none }

def pool10 : Array CpInfo := pool [(8, .class_ 10), (1, u "java/lang/Iterable"), (24, .class_ 36), (0, u "java/lang/Object")] 25

/-- java/lang/Iterable -/
def k10 : Class := { plain "java/lang/Iterable" (some 0) with
  accessFlags := 1537
  interfaces := #[]
  cf := some (fileOf pool10 8 #[] #[] 1537 35 #[] #[])
  fields := #[]
  methods := #[]
  instanceTypes := #[]
  staticTypes := #[]
  resolved := Array.replicate 62 none
  statics := none }

def pool11 : Array CpInfo := pool [(10, .class_ 12), (1, u "java/util/Collection"), (47, .class_ 61), (0, u "java/lang/Object"), (0, .class_ 63), (0, u "java/lang/Iterable")] 51

/-- java/util/Collection -/
def k11 : Class := { plain "java/util/Collection" (some 0) with
  accessFlags := 1537
  interfaces := #[10]
  cf := some (fileOf pool11 10 #[] #[] 1537 60 #[62] #[])
  fields := #[]
  methods := #[]
  instanceTypes := #[]
  staticTypes := #[]
  resolved := Array.replicate 115 none
  statics := none }

def pool12 : Array CpInfo := pool [(1, .methodref 2 3), (0, .class_ 4), (0, .nameAndType 5 6), (0, u "java/lang/Object"), (0, u "<init>"), (0, u "()V"), (1, .class_ 10), (1, u "java/util/AbstractCollection"), (66, .class_ 78), (0, u "java/util/Collection")] 81

def k12c0 : Code := { maxStack := 1, maxLocals := 1, code := jdk_22_method_1_code, exceptionTable := #[], attributes := #[] }
def k12m0 : Method := { name := "<init>", desc := "()V", sig := { parameters := [], returnType := none }, accessFlags := 4, code := some k12c0 }
/-- java/util/AbstractCollection -/
def k12 : Class := { plain "java/util/AbstractCollection" (some 0) with
  accessFlags := 1057
  interfaces := #[11]
  cf := some (fileOf pool12 8 #[] #[{ accessFlags := 4, nameIndex := 5, descriptorIndex := 6, attributes := #[] }] 1057 2 #[77] #[])
  fields := #[]
  methods := #[k12m0]
  instanceTypes := #[]
  staticTypes := #[]
  resolved := Array.replicate 160 none
  statics := none }

def pool13 : Array CpInfo := pool [(1, .methodref 2 3), (0, .class_ 4), (0, .nameAndType 5 6), (0, u "java/util/AbstractCollection"), (0, u "<init>"), (0, u "()V"), (0, .class_ 8), (0, u "com/example/ferry2/ferry2/store/SpooledMessage"), (0, .fieldref 10 11), (0, .class_ 12), (0, .nameAndType 13 14), (0, u "com/example/ferry2/ferry2/store/PendingMessages"), (0, u "ring"), (0, u "[Lcom/example/ferry2/ferry2/store/SpooledMessage;"), (2, u "size"), (0, u "I"), (25, u "head"), (6, u "changes"), (18, .class_ 71), (0, u "com/example/ferry2/ferry2/store/PendingMessages$Walk")] 55

def k13c0 : Code := { maxStack := 2, maxLocals := 1, code := prog_38_method_1_code, exceptionTable := #[], attributes := #[] }
def k13m0 : Method := { name := "<init>", desc := "()V", sig := { parameters := [], returnType := none }, accessFlags := 0, code := some k13c0 }
/-- com/example/ferry2/ferry2/store/PendingMessages -/
def k13 : Class := { plain "com/example/ferry2/ferry2/store/PendingMessages" (some 12) with
  accessFlags := 48
  interfaces := #[]
  cf := some (fileOf pool13 10 #[.nestMembers #[70]] #[{ accessFlags := 0, nameIndex := 5, descriptorIndex := 6, attributes := #[] }] 48 2 #[] #[{ accessFlags := 2, nameIndex := 13, descriptorIndex := 14, attributes := #[] }, { accessFlags := 2, nameIndex := 44, descriptorIndex := 18, attributes := #[] }, { accessFlags := 2, nameIndex := 17, descriptorIndex := 18, attributes := #[] }, { accessFlags := 2, nameIndex := 51, descriptorIndex := 18, attributes := #[] }])
  fields := #[{ name := "ring", type := (.array (.object "com/example/ferry2/ferry2/store/SpooledMessage")), accessFlags := 2, slot := 0, constantValue := 0 }, { name := "head", type := .int, accessFlags := 2, slot := 1, constantValue := 0 }, { name := "size", type := .int, accessFlags := 2, slot := 2, constantValue := 0 }, { name := "changes", type := .int, accessFlags := 2, slot := 3, constantValue := 0 }]
  methods := #[k13m0]
  instanceTypes := #[(.array (.object "com/example/ferry2/ferry2/store/SpooledMessage")), .int, .int, .int]
  staticTypes := #[]
  resolved := Array.replicate 127 none
  statics := none }

def pool14 : Array CpInfo := pool [(2, .class_ 4), (1, u "java/lang/Object"), (3, .class_ 10), (1, u "com/example/ferry2/ferry2/store/SpooledMessage"), (0, u "id"), (0, u "J"), (2, u "segment"), (2, u "offset"), (2, u "size"), (0, u "I"), (2, u "envelope"), (5, u "mode"), (0, u "Lcom/example/ferry2/ferry2/model/DeliveryMode;"), (2, u "expiry"), (2, u "message"), (0, u "Lcom/example/ferry2/ferry2/model/Message;"), (53, u "SPOOL_ORDER"), (0, u "Ljava/util/Comparator;"), (2, u "NOT_JOURNALED"), (3, u "references"), (0, u "nonDurableHolds"), (0, u "counted"), (0, u "Z")] 44

/-- com/example/ferry2/ferry2/store/SpooledMessage -/
def k14 : Class := { plain "com/example/ferry2/ferry2/store/SpooledMessage" (some 0) with
  accessFlags := 49
  interfaces := #[]
  cf := some (fileOf pool14 8 #[] #[] 49 2 #[] #[{ accessFlags := 25, nameIndex := 93, descriptorIndex := 94, attributes := #[] }, { accessFlags := 24, nameIndex := 97, descriptorIndex := 12, attributes := #[] }, { accessFlags := 16, nameIndex := 11, descriptorIndex := 12, attributes := #[] }, { accessFlags := 16, nameIndex := 15, descriptorIndex := 12, attributes := #[] }, { accessFlags := 16, nameIndex := 18, descriptorIndex := 12, attributes := #[] }, { accessFlags := 16, nameIndex := 21, descriptorIndex := 22, attributes := #[] }, { accessFlags := 0, nameIndex := 25, descriptorIndex := 22, attributes := #[] }, { accessFlags := 16, nameIndex := 31, descriptorIndex := 32, attributes := #[] }, { accessFlags := 0, nameIndex := 35, descriptorIndex := 12, attributes := #[] }, { accessFlags := 0, nameIndex := 38, descriptorIndex := 39, attributes := #[] }, { accessFlags := 0, nameIndex := 101, descriptorIndex := 22, attributes := #[] }, { accessFlags := 0, nameIndex := 102, descriptorIndex := 22, attributes := #[] }, { accessFlags := 0, nameIndex := 103, descriptorIndex := 104, attributes := #[] }])
  fields := #[{ name := "SPOOL_ORDER", type := (.object "java/util/Comparator"), accessFlags := 25, slot := 0, constantValue := 0 }, { name := "NOT_JOURNALED", type := .long, accessFlags := 24, slot := 1, constantValue := 0 }, { name := "id", type := .long, accessFlags := 16, slot := 0, constantValue := 0 }, { name := "segment", type := .long, accessFlags := 16, slot := 1, constantValue := 0 }, { name := "offset", type := .long, accessFlags := 16, slot := 2, constantValue := 0 }, { name := "size", type := .int, accessFlags := 16, slot := 3, constantValue := 0 }, { name := "envelope", type := .int, accessFlags := 0, slot := 4, constantValue := 0 }, { name := "mode", type := (.object "com/example/ferry2/ferry2/model/DeliveryMode"), accessFlags := 16, slot := 5, constantValue := 0 }, { name := "expiry", type := .long, accessFlags := 0, slot := 6, constantValue := 0 }, { name := "message", type := (.object "com/example/ferry2/ferry2/model/Message"), accessFlags := 0, slot := 7, constantValue := 0 }, { name := "references", type := .int, accessFlags := 0, slot := 8, constantValue := 0 }, { name := "nonDurableHolds", type := .int, accessFlags := 0, slot := 9, constantValue := 0 }, { name := "counted", type := .boolean, accessFlags := 0, slot := 10, constantValue := 0 }]
  methods := #[]
  instanceTypes := #[.long, .long, .long, .int, .int, (.object "com/example/ferry2/ferry2/model/DeliveryMode"), .long, (.object "com/example/ferry2/ferry2/model/Message"), .int, .int, .boolean]
  staticTypes := #[(.object "java/util/Comparator"), .long]
  resolved := Array.replicate 149 none
  statics := none }

def pool15 : Array CpInfo := pool [(2, .class_ 4), (1, u "java/util/Map"), (31, .class_ 37), (0, u "java/util/Map$Entry"), (55, .class_ 94), (0, u "java/lang/Object")] 168

/-- java/util/Map -/
def k15 : Class := { plain "java/util/Map" (some 0) with
  accessFlags := 1537
  interfaces := #[]
  cf := some (fileOf pool15 2 #[.nestMembers #[36]] #[] 1537 93 #[] #[])
  fields := #[]
  methods := #[]
  instanceTypes := #[]
  staticTypes := #[]
  resolved := Array.replicate 263 none
  statics := none }

def pool16 : Array CpInfo := pool [(1, .methodref 2 3), (0, .class_ 4), (0, .nameAndType 5 6), (0, u "java/lang/Object"), (0, u "<init>"), (0, u "()V"), (1, .class_ 10), (1, u "java/util/AbstractMap"), (42, .class_ 54), (0, u "java/util/Map"), (9, u "keySet"), (0, u "Ljava/util/Set;"), (0, .class_ 67), (0, u "java/util/AbstractMap$1"), (5, u "values"), (0, u "Ljava/util/Collection;"), (0, .class_ 76), (0, u "java/util/AbstractMap$2"), (104, .class_ 182), (0, u "java/util/AbstractMap$ViewCollection"), (0, .class_ 184), (0, u "java/util/AbstractMap$SimpleImmutableEntry"), (0, .class_ 186), (0, u "java/util/AbstractMap$SimpleEntry"), (0, .class_ 188), (0, u "java/util/AbstractMap$2$1"), (0, .class_ 190), (0, u "java/util/AbstractMap$1$1")] 5

def k16c0 : Code := { maxStack := 1, maxLocals := 1, code := jdk_71_method_1_code, exceptionTable := #[], attributes := #[] }
def k16m0 : Method := { name := "<init>", desc := "()V", sig := { parameters := [], returnType := none }, accessFlags := 4, code := some k16c0 }
/-- java/util/AbstractMap -/
def k16 : Class := { plain "java/util/AbstractMap" (some 0) with
  accessFlags := 1057
  interfaces := #[15]
  cf := some (fileOf pool16 8 #[.nestMembers #[181, 183, 185, 75, 187, 66, 189]] #[{ accessFlags := 4, nameIndex := 5, descriptorIndex := 6, attributes := #[] }] 1057 2 #[53] #[{ accessFlags := 128, nameIndex := 64, descriptorIndex := 65, attributes := #[] }, { accessFlags := 128, nameIndex := 73, descriptorIndex := 74, attributes := #[] }])
  fields := #[{ name := "keySet", type := (.object "java/util/Set"), accessFlags := 128, slot := 0, constantValue := 0 }, { name := "values", type := (.object "java/util/Collection"), accessFlags := 128, slot := 1, constantValue := 0 }]
  methods := #[k16m0]
  instanceTypes := #[(.object "java/util/Set"), (.object "java/util/Collection")]
  staticTypes := #[]
  resolved := Array.replicate 196 none
  statics := none }

def pool17 : Array CpInfo := pool [(1, .class_ 2), (0, u "java/lang/Cloneable"), (0, .class_ 4), (0, u "java/lang/Object")] 2

/-- java/lang/Cloneable -/
def k17 : Class := { plain "java/lang/Cloneable" (some 0) with
  accessFlags := 1537
  interfaces := #[]
  cf := some (fileOf pool17 1 #[] #[] 1537 3 #[] #[])
  fields := #[]
  methods := #[]
  instanceTypes := #[]
  staticTypes := #[]
  resolved := Array.replicate 7 none
  statics := none }

def pool18 : Array CpInfo := pool [(34, .methodref 35 36), (0, .class_ 37), (0, .nameAndType 38 39), (0, u "java/lang/Integer"), (0, u "numberOfLeadingZeros"), (0, u "(I)I"), (0, .class_ 41), (0, u "java/util/HashMap"), (0, .integer 1073741824), (0, .methodref 44 45), (0, .class_ 46), (0, .nameAndType 47 48), (0, u "java/util/AbstractMap"), (0, u "<init>"), (0, u "()V"), (21, .methodref 71 72), (0, .class_ 73), (0, .nameAndType 74 75), (0, u "java/lang/Float"), (0, u "isNaN"), (0, u "(F)Z"), (5, .fieldref 40 82), (0, .nameAndType 83 84), (0, u "loadFactor"), (0, u "F"), (0, .methodref 40 86), (0, .nameAndType 87 39), (0, u "tableSizeFor"), (0, .fieldref 40 89), (0, .nameAndType 90 91), (0, u "threshold"), (0, u "I"), (0, .float 1061158912), (2, u "(IF)V"), (5, .class_ 103), (1, u "java/util/Map"), (0, u "size"), (2, u "table"), (0, u "[Ljava/util/HashMap$Node;"), (14, u "entrySet"), (39, .class_ 165), (1, u "java/util/HashMap$Node"), (14, .class_ 181), (0, u "java/util/HashMap$TreeNode"), (22, u "modCount"), (37, u "Ljava/util/Set;"), (0, .class_ 244), (0, u "java/util/HashMap$KeySet"), (18, .class_ 264), (0, u "java/util/HashMap$Values"), (3, .class_ 269), (0, u "java/util/HashMap$EntrySet"), (76, .class_ 348), (1, u "java/util/HashMap$UnsafeHolder"), (43, .class_ 393), (0, u "java/lang/Cloneable"), (0, .class_ 395), (0, u "java/io/Serializable"), (0, u "serialVersionUID"), (0, u "J"), (3, u "DEFAULT_INITIAL_CAPACITY"), (1, u "MAXIMUM_CAPACITY"), (0, u "DEFAULT_LOAD_FACTOR"), (0, u "TREEIFY_THRESHOLD"), (1, u "UNTREEIFY_THRESHOLD"), (1, u "MIN_TREEIFY_CAPACITY"), (186, .class_ 597), (0, u "java/util/HashMap$EntrySpliterator"), (0, .class_ 599), (0, u "java/util/HashMap$ValueSpliterator"), (0, .class_ 601), (0, u "java/util/HashMap$KeySpliterator"), (0, .class_ 603), (0, u "java/util/HashMap$HashMapSpliterator"), (0, .class_ 605), (0, u "java/util/HashMap$EntryIterator"), (0, .class_ 607), (0, u "java/util/HashMap$ValueIterator"), (0, .class_ 609), (0, u "java/util/HashMap$KeyIterator"), (0, .class_ 611), (0, u "java/util/HashMap$HashIterator")] 17

def k18c0 : Code := { maxStack := 3, maxLocals := 2, code := jdk_69_method_4_code, exceptionTable := #[], attributes := #[] }
def k18m0 : Method := { name := "tableSizeFor", desc := "(I)I", sig := { parameters := [.int], returnType := some .int }, accessFlags := 24, code := some k18c0 }
def k18c1 : Code := { maxStack := 4, maxLocals := 3, code := jdk_69_method_5_code, exceptionTable := #[], attributes := #[] }
def k18m1 : Method := { name := "<init>", desc := "(IF)V", sig := { parameters := [.int, .float], returnType := none }, accessFlags := 1, code := some k18c1 }
def k18c2 : Code := { maxStack := 2, maxLocals := 1, code := jdk_69_method_7_code, exceptionTable := #[], attributes := #[] }
def k18m2 : Method := { name := "<init>", desc := "()V", sig := { parameters := [], returnType := none }, accessFlags := 1, code := some k18c2 }
/-- java/util/HashMap -/
def k18 : Class := { plain "java/util/HashMap" (some 16) with
  accessFlags := 33
  interfaces := #[15, 17, 4]
  cf := some (fileOf pool18 40 #[.nestMembers #[180, 596, 598, 600, 602, 604, 606, 608, 610, 346, 268, 263, 243, 163]] #[{ accessFlags := 24, nameIndex := 87, descriptorIndex := 39, attributes := #[] }, { accessFlags := 1, nameIndex := 47, descriptorIndex := 95, attributes := #[] }, { accessFlags := 1, nameIndex := 47, descriptorIndex := 48, attributes := #[] }] 33 44 #[101, 392, 394] #[{ accessFlags := 26, nameIndex := 396, descriptorIndex := 397, attributes := #[] }, { accessFlags := 24, nameIndex := 401, descriptorIndex := 91, attributes := #[] }, { accessFlags := 24, nameIndex := 403, descriptorIndex := 91, attributes := #[] }, { accessFlags := 24, nameIndex := 404, descriptorIndex := 84, attributes := #[] }, { accessFlags := 24, nameIndex := 405, descriptorIndex := 91, attributes := #[] }, { accessFlags := 24, nameIndex := 407, descriptorIndex := 91, attributes := #[] }, { accessFlags := 24, nameIndex := 409, descriptorIndex := 91, attributes := #[] }, { accessFlags := 128, nameIndex := 107, descriptorIndex := 108, attributes := #[] }, { accessFlags := 128, nameIndex := 123, descriptorIndex := 242, attributes := #[] }, { accessFlags := 128, nameIndex := 104, descriptorIndex := 91, attributes := #[] }, { accessFlags := 128, nameIndex := 204, descriptorIndex := 91, attributes := #[] }, { accessFlags := 0, nameIndex := 90, descriptorIndex := 91, attributes := #[] }, { accessFlags := 16, nameIndex := 83, descriptorIndex := 84, attributes := #[] }])
  fields := #[{ name := "serialVersionUID", type := .long, accessFlags := 26, slot := 0, constantValue := 0 }, { name := "DEFAULT_INITIAL_CAPACITY", type := .int, accessFlags := 24, slot := 1, constantValue := 0 }, { name := "MAXIMUM_CAPACITY", type := .int, accessFlags := 24, slot := 2, constantValue := 0 }, { name := "DEFAULT_LOAD_FACTOR", type := .float, accessFlags := 24, slot := 3, constantValue := 0 }, { name := "TREEIFY_THRESHOLD", type := .int, accessFlags := 24, slot := 4, constantValue := 0 }, { name := "UNTREEIFY_THRESHOLD", type := .int, accessFlags := 24, slot := 5, constantValue := 0 }, { name := "MIN_TREEIFY_CAPACITY", type := .int, accessFlags := 24, slot := 6, constantValue := 0 }, { name := "table", type := (.array (.object "java/util/HashMap$Node")), accessFlags := 128, slot := 2, constantValue := 0 }, { name := "entrySet", type := (.object "java/util/Set"), accessFlags := 128, slot := 3, constantValue := 0 }, { name := "size", type := .int, accessFlags := 128, slot := 4, constantValue := 0 }, { name := "modCount", type := .int, accessFlags := 128, slot := 5, constantValue := 0 }, { name := "threshold", type := .int, accessFlags := 0, slot := 6, constantValue := 0 }, { name := "loadFactor", type := .float, accessFlags := 16, slot := 7, constantValue := 0 }]
  methods := #[k18m0, k18m1, k18m2]
  instanceTypes := #[(.object "java/util/Set"), (.object "java/util/Collection"), (.array (.object "java/util/HashMap$Node")), (.object "java/util/Set"), .int, .int, .int, .float]
  staticTypes := #[.long, .int, .int, .float, .int, .int, .int]
  resolved := Array.replicate 629 none
  statics := none }

def pool19 : Array CpInfo := pool [(2, .class_ 4), (1, u "java/util/SequencedMap"), (38, .class_ 44), (0, u "java/util/SequencedMap$1SeqKeySet"), (3, .class_ 49), (0, u "java/util/SequencedMap$1SeqValues"), (1, .class_ 52), (0, u "java/util/SequencedMap$1SeqEntrySet"), (1, .class_ 55), (0, u "java/lang/Object"), (0, .class_ 57), (0, u "java/util/Map")] 48

/-- java/util/SequencedMap -/
def k19 : Class := { plain "java/util/SequencedMap" (some 0) with
  accessFlags := 1537
  interfaces := #[15]
  cf := some (fileOf pool19 2 #[.nestMembers #[51, 48, 43]] #[] 1537 54 #[56] #[])
  fields := #[]
  methods := #[]
  instanceTypes := #[]
  staticTypes := #[]
  resolved := Array.replicate 106 none
  statics := none }

def pool20 : Array CpInfo := pool [(1, .fieldref 2 3), (0, .class_ 4), (0, .nameAndType 5 6), (0, u "java/util/LinkedHashMap"), (0, u "putMode"), (0, u "I"), (2, u "head"), (0, u "Ljava/util/LinkedHashMap$Entry;"), (2, u "tail"), (1, .class_ 17), (1, u "java/util/LinkedHashMap$Entry"), (5, .class_ 25), (1, u "java/util/HashMap"), (1, u "()V"), (2, u "<init>"), (33, .fieldref 2 65), (0, .nameAndType 66 67), (0, u "accessOrder"), (0, u "Z"), (13, .methodref 23 82), (0, .nameAndType 30 83), (0, u "(IF)V"), (3, .methodref 23 88), (0, .nameAndType 30 27), (32, .class_ 122), (0, u "java/util/LinkedHashMap$LinkedKeySet"), (20, .class_ 144), (0, u "java/util/LinkedHashMap$LinkedValues"), (9, .class_ 155), (0, u "java/util/LinkedHashMap$LinkedEntrySet"), (44, .class_ 201), (0, u "java/util/LinkedHashMap$ReversedLinkedHashMapView"), (3, .class_ 206), (0, u "java/util/SequencedMap"), (0, u "serialVersionUID"), (0, u "J"), (5, u "PUT_NORM"), (1, u "PUT_FIRST"), (1, u "PUT_LAST"), (143, .class_ 363), (0, u "java/util/LinkedHashMap$LinkedEntryIterator"), (0, .class_ 365), (0, u "java/util/LinkedHashMap$LinkedValueIterator"), (0, .class_ 367), (0, u "java/util/LinkedHashMap$LinkedKeyIterator"), (0, .class_ 369), (0, u "java/util/LinkedHashMap$LinkedHashIterator")] 16

def k20c0 : Code := { maxStack := 3, maxLocals := 3, code := jdk_94_method_14_code, exceptionTable := #[], attributes := #[] }
def k20m0 : Method := { name := "<init>", desc := "(IF)V", sig := { parameters := [.int, .float], returnType := none }, accessFlags := 1, code := some k20c0 }
def k20c1 : Code := { maxStack := 2, maxLocals := 1, code := jdk_94_method_16_code, exceptionTable := #[], attributes := #[] }
def k20m1 : Method := { name := "<init>", desc := "()V", sig := { parameters := [], returnType := none }, accessFlags := 1, code := some k20c1 }
/-- java/util/LinkedHashMap -/
def k20 : Class := { plain "java/util/LinkedHashMap" (some 18) with
  accessFlags := 33
  interfaces := #[19]
  cf := some (fileOf pool20 2 #[.nestMembers #[200, 362, 364, 366, 368, 154, 143, 121, 15]] #[{ accessFlags := 1, nameIndex := 30, descriptorIndex := 83, attributes := #[] }, { accessFlags := 1, nameIndex := 30, descriptorIndex := 27, attributes := #[] }] 33 23 #[205] #[{ accessFlags := 26, nameIndex := 207, descriptorIndex := 208, attributes := #[] }, { accessFlags := 128, nameIndex := 9, descriptorIndex := 10, attributes := #[] }, { accessFlags := 128, nameIndex := 13, descriptorIndex := 10, attributes := #[] }, { accessFlags := 16, nameIndex := 66, descriptorIndex := 67, attributes := #[] }, { accessFlags := 24, nameIndex := 214, descriptorIndex := 6, attributes := #[] }, { accessFlags := 24, nameIndex := 216, descriptorIndex := 6, attributes := #[] }, { accessFlags := 24, nameIndex := 218, descriptorIndex := 6, attributes := #[] }, { accessFlags := 128, nameIndex := 5, descriptorIndex := 6, attributes := #[] }])
  fields := #[{ name := "serialVersionUID", type := .long, accessFlags := 26, slot := 0, constantValue := 0 }, { name := "head", type := (.object "java/util/LinkedHashMap$Entry"), accessFlags := 128, slot := 8, constantValue := 0 }, { name := "tail", type := (.object "java/util/LinkedHashMap$Entry"), accessFlags := 128, slot := 9, constantValue := 0 }, { name := "accessOrder", type := .boolean, accessFlags := 16, slot := 10, constantValue := 0 }, { name := "PUT_NORM", type := .int, accessFlags := 24, slot := 1, constantValue := 0 }, { name := "PUT_FIRST", type := .int, accessFlags := 24, slot := 2, constantValue := 0 }, { name := "PUT_LAST", type := .int, accessFlags := 24, slot := 3, constantValue := 0 }, { name := "putMode", type := .int, accessFlags := 128, slot := 11, constantValue := 0 }]
  methods := #[k20m0, k20m1]
  instanceTypes := #[(.object "java/util/Set"), (.object "java/util/Collection"), (.array (.object "java/util/HashMap$Node")), (.object "java/util/Set"), .int, .int, .int, .float, (.object "java/util/LinkedHashMap$Entry"), (.object "java/util/LinkedHashMap$Entry"), .boolean, .int]
  staticTypes := #[.long, .int, .int, .int]
  resolved := Array.replicate 386 none
  statics := none }

def pool21 : Array CpInfo := pool [(26, .class_ 27), (0, u "java/lang/Object"), (5, .class_ 34), (0, u "java/util/Set"), (1, .class_ 38), (1, u "java/util/Collection")] 105

/-- java/util/Set -/
def k21 : Class := { plain "java/util/Set" (some 0) with
  accessFlags := 1537
  interfaces := #[11]
  cf := some (fileOf pool21 33 #[] #[] 1537 26 #[36] #[])
  fields := #[]
  methods := #[]
  instanceTypes := #[]
  staticTypes := #[]
  resolved := Array.replicate 144 none
  statics := none }

def pool22 : Array CpInfo := pool [(1, .methodref 2 3), (0, .class_ 4), (0, .nameAndType 5 6), (0, u "java/util/AbstractCollection"), (0, u "<init>"), (0, u "()V"), (0, .class_ 8), (0, u "java/util/Set"), (7, .class_ 17), (0, u "java/util/AbstractSet")] 78

def k22c0 : Code := { maxStack := 1, maxLocals := 1, code := jdk_91_method_1_code, exceptionTable := #[], attributes := #[] }
def k22m0 : Method := { name := "<init>", desc := "()V", sig := { parameters := [], returnType := none }, accessFlags := 4, code := some k22c0 }
/-- java/util/AbstractSet -/
def k22 : Class := { plain "java/util/AbstractSet" (some 12) with
  accessFlags := 1057
  interfaces := #[21]
  cf := some (fileOf pool22 16 #[] #[{ accessFlags := 4, nameIndex := 5, descriptorIndex := 6, attributes := #[] }] 1057 2 #[7] #[])
  fields := #[]
  methods := #[k22m0]
  instanceTypes := #[]
  staticTypes := #[]
  resolved := Array.replicate 96 none
  statics := none }

def pool23 : Array CpInfo := pool [(1, .methodref 2 3), (0, .class_ 4), (0, .nameAndType 5 6), (0, u "java/util/AbstractSet"), (0, u "<init>"), (0, u "()V"), (0, .class_ 8), (0, u "java/util/HashMap"), (0, .methodref 7 3), (0, .fieldref 11 12), (0, .class_ 13), (0, .nameAndType 14 15), (0, u "java/util/HashSet"), (0, u "map"), (0, u "Ljava/util/HashMap;"), (21, .nameAndType 5 38), (0, u "(IF)V"), (3, .class_ 43), (0, u "java/util/LinkedHashMap"), (0, .methodref 42 37), (5, .class_ 52), (1, u "java/util/Set"), (13, u "PRESENT"), (0, u "Ljava/lang/Object;"), (158, .class_ 227), (0, u "java/lang/Cloneable"), (0, .class_ 229), (0, u "java/io/Serializable"), (0, u "serialVersionUID"), (0, u "J"), (20, u "(IFZ)V")] 50

def k23c0 : Code := { maxStack := 3, maxLocals := 1, code := jdk_93_method_1_code, exceptionTable := #[], attributes := #[] }
def k23m0 : Method := { name := "<init>", desc := "()V", sig := { parameters := [], returnType := none }, accessFlags := 1, code := some k23c0 }
def k23c1 : Code := { maxStack := 5, maxLocals := 4, code := jdk_93_method_5_code, exceptionTable := #[], attributes := #[] }
def k23m1 : Method := { name := "<init>", desc := "(IFZ)V", sig := { parameters := [.int, .float, .boolean], returnType := none }, accessFlags := 0, code := some k23c1 }
/-- java/util/HashSet -/
def k23 : Class := { plain "java/util/HashSet" (some 22) with
  accessFlags := 33
  interfaces := #[21, 17, 4]
  cf := some (fileOf pool23 11 #[] #[{ accessFlags := 1, nameIndex := 5, descriptorIndex := 6, attributes := #[] }, { accessFlags := 0, nameIndex := 5, descriptorIndex := 252, attributes := #[] }] 33 2 #[50, 226, 228] #[{ accessFlags := 24, nameIndex := 230, descriptorIndex := 231, attributes := #[] }, { accessFlags := 128, nameIndex := 14, descriptorIndex := 15, attributes := #[] }, { accessFlags := 24, nameIndex := 66, descriptorIndex := 67, attributes := #[] }])
  fields := #[{ name := "serialVersionUID", type := .long, accessFlags := 24, slot := 0, constantValue := 0 }, { name := "map", type := (.object "java/util/HashMap"), accessFlags := 128, slot := 0, constantValue := 0 }, { name := "PRESENT", type := (.object "java/lang/Object"), accessFlags := 24, slot := 1, constantValue := 0 }]
  methods := #[k23m0, k23m1]
  instanceTypes := #[(.object "java/util/HashMap")]
  staticTypes := #[.long, (.object "java/lang/Object")]
  resolved := Array.replicate 303 none
  statics := none }

def pool24 : Array CpInfo := pool [(8, .class_ 10), (1, u "java/util/SequencedCollection"), (15, .class_ 27), (0, u "java/lang/Object"), (0, .class_ 29), (0, u "java/util/Collection")] 27

/-- java/util/SequencedCollection -/
def k24 : Class := { plain "java/util/SequencedCollection" (some 0) with
  accessFlags := 1537
  interfaces := #[11]
  cf := some (fileOf pool24 8 #[] #[] 1537 26 #[28] #[])
  fields := #[]
  methods := #[]
  instanceTypes := #[]
  staticTypes := #[]
  resolved := Array.replicate 57 none
  statics := none }

def pool25 : Array CpInfo := pool [(2, .class_ 4), (1, u "java/util/SequencedSet"), (2, .class_ 8), (0, u "java/lang/Object"), (0, .class_ 10), (0, u "java/util/SequencedCollection"), (0, .class_ 12), (0, u "java/util/Set")] 13

/-- java/util/SequencedSet -/
def k25 : Class := { plain "java/util/SequencedSet" (some 0) with
  accessFlags := 1537
  interfaces := #[24, 21]
  cf := some (fileOf pool25 2 #[] #[] 1537 7 #[9, 11] #[])
  fields := #[]
  methods := #[]
  instanceTypes := #[]
  staticTypes := #[]
  resolved := Array.replicate 26 none
  statics := none }

def pool26 : Array CpInfo := pool [(1, .methodref 2 3), (0, .class_ 4), (0, .nameAndType 5 6), (0, u "java/util/HashSet"), (0, u "<init>"), (0, u "(IFZ)V"), (0, .float 1061158912), (19, .class_ 29), (1, u "java/util/LinkedHashSet"), (16, u "()V"), (44, .class_ 93), (1, u "java/util/SequencedSet"), (11, .class_ 106), (0, u "java/util/LinkedHashSet$1ReverseLinkedHashSetView"), (6, .class_ 114), (0, u "java/lang/Cloneable"), (0, .class_ 116), (0, u "java/io/Serializable"), (0, u "serialVersionUID"), (0, u "J")] 44

def k26c0 : Code := { maxStack := 4, maxLocals := 1, code := jdk_2620_method_3_code, exceptionTable := #[], attributes := #[] }
def k26m0 : Method := { name := "<init>", desc := "()V", sig := { parameters := [], returnType := none }, accessFlags := 1, code := some k26c0 }
/-- java/util/LinkedHashSet -/
def k26 : Class := { plain "java/util/LinkedHashSet" (some 23) with
  accessFlags := 33
  interfaces := #[25, 17, 4]
  cf := some (fileOf pool26 27 #[.nestMembers #[105]] #[{ accessFlags := 1, nameIndex := 5, descriptorIndex := 46, attributes := #[] }] 33 2 #[91, 113, 115] #[{ accessFlags := 26, nameIndex := 117, descriptorIndex := 118, attributes := #[] }])
  fields := #[{ name := "serialVersionUID", type := .long, accessFlags := 26, slot := 0, constantValue := 0 }]
  methods := #[k26m0]
  instanceTypes := #[(.object "java/util/HashMap")]
  staticTypes := #[.long]
  resolved := Array.replicate 163 none
  statics := none }

def pool27 : Array CpInfo := pool [(2, .class_ 4), (1, u "java/lang/Object"), (0, u "<init>"), (0, u "()V"), (1, .class_ 10), (1, u "java/lang/Number"), (2, .class_ 14), (0, u "java/io/Serializable"), (0, u "serialVersionUID"), (0, u "J")] 20

def k27m0 : Method := { name := "<init>", desc := "()V", sig := { parameters := [], returnType := none }, accessFlags := 1, code := none }
/-- java/lang/Number -/
def k27 : Class := { plain "java/lang/Number" (some 0) with
  accessFlags := 1057
  interfaces := #[4]
  cf := some (fileOf pool27 8 #[] #[{ accessFlags := 1, nameIndex := 5, descriptorIndex := 6, attributes := #[] }] 1057 2 #[13] #[{ accessFlags := 26, nameIndex := 15, descriptorIndex := 16, attributes := #[] }])
  fields := #[{ name := "serialVersionUID", type := .long, accessFlags := 26, slot := 0, constantValue := 0 }]
  methods := #[k27m0]
  instanceTypes := #[]
  staticTypes := #[.long]
  resolved := Array.replicate 37 none
  statics := none }

def pool28 : Array CpInfo := pool [(1, .class_ 2), (0, u "java/lang/Float"), (48, .class_ 53), (1, u "java/lang/Number"), (3, u "value"), (0, u "F"), (2, u "isNaN"), (0, u "(F)Z"), (28, u "$assertionsDisabled"), (0, u "Z"), (52, u "TYPE"), (0, u "Ljava/lang/Class;"), (0, .class_ 148), (0, u "java/lang/Comparable"), (0, .class_ 150), (0, u "java/lang/constant/Constable"), (0, .class_ 152), (0, u "java/lang/constant/ConstantDesc"), (0, u "POSITIVE_INFINITY"), (1, u "NEGATIVE_INFINITY"), (1, u "NaN"), (1, u "MAX_VALUE"), (0, u "MIN_NORMAL"), (0, u "MIN_VALUE"), (1, u "SIZE"), (0, u "I"), (1, u "PRECISION"), (1, u "MAX_EXPONENT"), (1, u "MIN_EXPONENT"), (1, u "BYTES"), (3, u "serialVersionUID"), (0, u "J")] 101

def k28c0 : Code := { maxStack := 2, maxLocals := 1, code := jdk_118_method_6_code, exceptionTable := #[], attributes := #[] }
def k28m0 : Method := { name := "isNaN", desc := "(F)Z", sig := { parameters := [.float], returnType := some .boolean }, accessFlags := 9, code := some k28c0 }
/-- java/lang/Float -/
def k28 : Class := { plain "java/lang/Float" (some 27) with
  accessFlags := 49
  interfaces := #[5, 7, 8]
  cf := some (fileOf pool28 1 #[] #[{ accessFlags := 9, nameIndex := 61, descriptorIndex := 62, attributes := #[] }] 49 51 #[147, 149, 151] #[{ accessFlags := 25, nameIndex := 153, descriptorIndex := 58, attributes := #[] }, { accessFlags := 25, nameIndex := 155, descriptorIndex := 58, attributes := #[] }, { accessFlags := 25, nameIndex := 157, descriptorIndex := 58, attributes := #[] }, { accessFlags := 25, nameIndex := 159, descriptorIndex := 58, attributes := #[] }, { accessFlags := 25, nameIndex := 160, descriptorIndex := 58, attributes := #[] }, { accessFlags := 25, nameIndex := 161, descriptorIndex := 58, attributes := #[] }, { accessFlags := 25, nameIndex := 163, descriptorIndex := 164, attributes := #[] }, { accessFlags := 25, nameIndex := 166, descriptorIndex := 164, attributes := #[] }, { accessFlags := 25, nameIndex := 168, descriptorIndex := 164, attributes := #[] }, { accessFlags := 25, nameIndex := 170, descriptorIndex := 164, attributes := #[] }, { accessFlags := 25, nameIndex := 172, descriptorIndex := 164, attributes := #[] }, { accessFlags := 25, nameIndex := 145, descriptorIndex := 146, attributes := #[] }, { accessFlags := 18, nameIndex := 57, descriptorIndex := 58, attributes := #[] }, { accessFlags := 26, nameIndex := 176, descriptorIndex := 177, attributes := #[] }, { accessFlags := 4120, nameIndex := 91, descriptorIndex := 92, attributes := #[] }])
  fields := #[{ name := "POSITIVE_INFINITY", type := .float, accessFlags := 25, slot := 0, constantValue := 0 }, { name := "NEGATIVE_INFINITY", type := .float, accessFlags := 25, slot := 1, constantValue := 0 }, { name := "NaN", type := .float, accessFlags := 25, slot := 2, constantValue := 0 }, { name := "MAX_VALUE", type := .float, accessFlags := 25, slot := 3, constantValue := 0 }, { name := "MIN_NORMAL", type := .float, accessFlags := 25, slot := 4, constantValue := 0 }, { name := "MIN_VALUE", type := .float, accessFlags := 25, slot := 5, constantValue := 0 }, { name := "SIZE", type := .int, accessFlags := 25, slot := 6, constantValue := 0 }, { name := "PRECISION", type := .int, accessFlags := 25, slot := 7, constantValue := 0 }, { name := "MAX_EXPONENT", type := .int, accessFlags := 25, slot := 8, constantValue := 0 }, { name := "MIN_EXPONENT", type := .int, accessFlags := 25, slot := 9, constantValue := 0 }, { name := "BYTES", type := .int, accessFlags := 25, slot := 10, constantValue := 0 }, { name := "TYPE", type := (.object "java/lang/Class"), accessFlags := 25, slot := 11, constantValue := 0 }, { name := "value", type := .float, accessFlags := 18, slot := 0, constantValue := 0 }, { name := "serialVersionUID", type := .long, accessFlags := 26, slot := 12, constantValue := 0 }, { name := "$assertionsDisabled", type := .boolean, accessFlags := 4120, slot := 13, constantValue := 0 }]
  methods := #[k28m0]
  instanceTypes := #[.float]
  staticTypes := #[.float, .float, .float, .float, .float, .float, .int, .int, .int, .int, .int, (.object "java/lang/Class"), .long, .boolean]
  resolved := Array.replicate 279 none
  statics := none }

def pool29 : Array CpInfo := pool [(1, .class_ 2), (0, u "java/lang/Integer"), (16, u "digits"), (0, u "[C"), (32, u "numberOfLeadingZeros"), (0, u "(I)I"), (30, u "DigitOnes"), (0, u "[B"), (2, u "DigitTens"), (99, .class_ 190), (0, u "java/lang/Integer$IntegerCache"), (3, u "I"), (8, .class_ 204), (0, u "java/lang/Number"), (2, u "value"), (56, .integer 65536), (37, u "TYPE"), (0, u "Ljava/lang/Class;"), (0, .class_ 305), (0, u "java/lang/Comparable"), (0, .class_ 307), (0, u "java/lang/constant/Constable"), (0, .class_ 309), (0, u "java/lang/constant/ConstantDesc"), (0, u "MIN_VALUE"), (1, u "MAX_VALUE"), (3, u "SIZE"), (1, u "BYTES"), (1, u "serialVersionUID"), (0, u "J")] 131

def k29c0 : Code := { maxStack := 3, maxLocals := 2, code := jdk_33_method_47_code, exceptionTable := #[], attributes := #[] }
def k29m0 : Method := { name := "numberOfLeadingZeros", desc := "(I)I", sig := { parameters := [.int], returnType := some .int }, accessFlags := 9, code := some k29c0 }
/-- java/lang/Integer -/
def k29 : Class := { plain "java/lang/Integer" (some 27) with
  accessFlags := 49
  interfaces := #[5, 7, 8]
  cf := some (fileOf pool29 1 #[.nestMembers #[189]] #[{ accessFlags := 9, nameIndex := 53, descriptorIndex := 54, attributes := #[] }] 49 203 #[304, 306, 308] #[{ accessFlags := 25, nameIndex := 310, descriptorIndex := 194, attributes := #[] }, { accessFlags := 25, nameIndex := 312, descriptorIndex := 194, attributes := #[] }, { accessFlags := 25, nameIndex := 302, descriptorIndex := 303, attributes := #[] }, { accessFlags := 24, nameIndex := 19, descriptorIndex := 20, attributes := #[] }, { accessFlags := 24, nameIndex := 89, descriptorIndex := 86, attributes := #[] }, { accessFlags := 24, nameIndex := 85, descriptorIndex := 86, attributes := #[] }, { accessFlags := 18, nameIndex := 207, descriptorIndex := 194, attributes := #[] }, { accessFlags := 25, nameIndex := 316, descriptorIndex := 194, attributes := #[] }, { accessFlags := 25, nameIndex := 318, descriptorIndex := 194, attributes := #[] }, { accessFlags := 26, nameIndex := 320, descriptorIndex := 321, attributes := #[] }])
  fields := #[{ name := "MIN_VALUE", type := .int, accessFlags := 25, slot := 0, constantValue := 0 }, { name := "MAX_VALUE", type := .int, accessFlags := 25, slot := 1, constantValue := 0 }, { name := "TYPE", type := (.object "java/lang/Class"), accessFlags := 25, slot := 2, constantValue := 0 }, { name := "digits", type := (.array .char), accessFlags := 24, slot := 3, constantValue := 0 }, { name := "DigitTens", type := (.array .byte), accessFlags := 24, slot := 4, constantValue := 0 }, { name := "DigitOnes", type := (.array .byte), accessFlags := 24, slot := 5, constantValue := 0 }, { name := "value", type := .int, accessFlags := 18, slot := 0, constantValue := 0 }, { name := "SIZE", type := .int, accessFlags := 25, slot := 6, constantValue := 0 }, { name := "BYTES", type := .int, accessFlags := 25, slot := 7, constantValue := 0 }, { name := "serialVersionUID", type := .long, accessFlags := 26, slot := 8, constantValue := 0 }]
  methods := #[k29m0]
  instanceTypes := #[.int]
  staticTypes := #[.int, .int, (.object "java/lang/Class"), (.array .char), (.array .byte), (.array .byte), .int, .int, .long]
  resolved := Array.replicate 453 none
  statics := none }

/-- the primitive byte -/
def k30 : Class := { plain "byte" none with kind := .primitive 'B', accessFlags := 0x411 }
/-- [B -/
def k31 : Class := { plain "[B" (some 0) with kind := .array 30 .byte, interfaces := #[17, 4], accessFlags := 1041 }

/-- the primitive int -/
def k32 : Class := { plain "int" none with kind := .primitive 'I', accessFlags := 0x411 }
/-- [I -/
def k33 : Class := { plain "[I" (some 0) with kind := .array 32 .int, interfaces := #[17, 4], accessFlags := 1041 }

/-- [Lcom/example/ferry2/ferry2/store/SpooledMessage; -/
def k34 : Class := { plain "[Lcom/example/ferry2/ferry2/store/SpooledMessage;" (some 0) with kind := .array 14 (.object "com/example/ferry2/ferry2/store/SpooledMessage"), interfaces := #[17, 4], accessFlags := 1041 }

def heap : Heap := #[]
def classes : Array Class := #[k0, k1, k2, k3, k4, k5, k6, k7, k8, k9, k10, k11, k12, k13, k14, k15, k16, k17, k18, k19, k20, k21, k22, k23, k24, k25, k26, k27, k28, k29, k30, k31, k32, k33, k34]
def interned : List (Array UInt16 × Addr) := []
def slotsUsed : Nat := 0
def theMethod : MethodId := ⟨1, 1⟩
def args0 : Array Value := #[.long 5, .long 7, .long 9, .int 3]
def aboutOver (below : List Frame) : State where
  vm := { classes := classes, interned := interned.toArray }
  heap := heap
  slotsUsed := slotsUsed
  threads := #[{ frames := .invoking theMethod args0 :: below }]
def below0 : List Frame := [.native { method := ⟨0, 0⟩, args := #[] }]
def about1 : State := aboutOver below0
def p0 : Program := .bare "" "" ""
def e0 : Env := launch0.env 0 0 0
theorem w_frames : about1.frames = Frame.invoking theMethod args0 :: below0 := rfl
set_option maxRecDepth 65536 in
theorem w_args : argsFit about1.vm theMethod args0 = true := by decide +kernel
set_option maxRecDepth 65536 in
theorem w_heap : heapFits about1 = true := by decide +kernel
set_option maxRecDepth 65536 in
theorem w_runnable : about1.curStatus? = some .runnable := by decide +kernel
set_option maxRecDepth 65536 in
theorem w_alone : about1.alone = true := by decide +kernel
set_option maxRecDepth 65536 in
theorem w_named : about1.methodNamed? x = some theMethod := by decide +kernel
set_option maxRecDepth 65536 in
theorem w_hears : about1.hears theMethod below0 = true := by decide +kernel
set_option maxRecDepth 65536 in
theorem w_ripe : about1.ripe theMethod args0 below0 = true := by decide +kernel
theorem w_running : about1.status = .running := rfl
set_option maxRecDepth 65536 in
theorem w_room : about1.hasRoom e0.platform room_1 = true :=
  launch0.hasRoom_least _ room_1 (by decide +kernel) (by decide +kernel) (by decide +kernel) (by decide +kernel) (by decide +kernel) (by decide +kernel)
theorem allAtoms_all (ts : List Jvm.Cond) (a : Array Jvm.Value) (st : Jvm.State) : (allAtoms ts).before a st = ts.all (fun c => c.before a st) := by
  induction ts with
  | nil => rfl
  | cons c t ih =>
    show (Jvm.Cond.and c (allAtoms t)).before a st = _
    rw [Jvm.Cond.before_and, ih, List.all_cons]
def words1 : List Jvm.Cond := Jvm.Cond.code x code maxLocals ret :: tables_1
/-- a 'code' word, met by the world's own term for the bytes: nothing is compared byte by byte -/
theorem code_word {y : MethodName} {bytes : ByteArray} {mx : Nat} {rt : Option FieldType} {a : Array Value} {s : State} {m : MethodId} {meth : Method} {c : Code} (h1 : s.methodNamed? y = some m) (h2 : s.vm.method? m = some meth) (h3 : meth.code = some c) (h4 : c.code = bytes)
    (h5 : (c.maxLocals == mx && c.exceptionTable.isEmpty && decide (c.maxStack ≤ mostOperands) && decide (meth.sig.returnType = rt) && !meth.locks && decide (parseMethodDescriptor y.desc = some meth.sig)) = true) : (Jvm.Cond.code y bytes mx rt).before a s = true := by
  simp only [Bool.and_eq_true, beq_iff_eq, Bool.not_eq_true', decide_eq_true_eq] at h5
  obtain ⟨⟨⟨⟨⟨g1, g2⟩, g3⟩, g4⟩, g5⟩, g6⟩ := h5
  simp [Cond.before, Cond.holds, Cond.value, h1, h2, h3, h4, g1, g2, g3, g4, g5, g6]
def isCode : Jvm.Cond → Bool
  | .code _ _ _ _ => true
  | _ => false
theorem all_split {L : List Jvm.Cond} {P : Jvm.Cond → Bool} (h1 : L.all (fun c => isCode c || P c) = true) (h2 : ∀ c ∈ L.filter isCode, P c = true) : L.all P = true := by
  refine List.all_eq_true.mpr fun c hc => ?_
  have h := List.all_eq_true.mp h1 c hc
  rcases Bool.eq_false_or_eq_true (isCode c) with hi | hi
  · exact h2 c (List.mem_filter.mpr ⟨hc, hi⟩)
  · simpa [hi] using h
set_option maxRecDepth 65536 in
theorem w_c0 : (Jvm.Cond.code x code maxLocals ret).before args0 about1 = true := code_word (m := ⟨1, 1⟩) (meth := k1m1) (c := k1c1) (by decide +kernel) rfl rfl rfl (by decide +kernel)
set_option maxRecDepth 65536 in
theorem w_c1 : (Jvm.Cond.code ({ cls := "com/example/ferry2/ferry2/store/Session", name := "<init>", desc := "(JLjava/lang/String;)V" } : Jvm.MethodName) prog_43_method_1_code (4 : Nat) (Option.none : Option Jvm.ClassFile.FieldType)).before args0 about1 = true := code_word (m := ⟨3, 0⟩) (meth := k3m0) (c := k3c0) (by decide +kernel) rfl rfl rfl (by decide +kernel)
set_option maxRecDepth 65536 in
theorem w_c2 : (Jvm.Cond.code ({ cls := "com/example/ferry2/ferry2/store/Endpoint", name := "<init>", desc := "(J)V" } : Jvm.MethodName) prog_37_method_1_code (3 : Nat) (Option.none : Option Jvm.ClassFile.FieldType)).before args0 about1 = true := code_word (m := ⟨2, 0⟩) (meth := k2m0) (c := k2c0) (by decide +kernel) rfl rfl rfl (by decide +kernel)
set_option maxRecDepth 65536 in
theorem w_c3 : (Jvm.Cond.code ({ cls := "java/lang/Object", name := "<init>", desc := "()V" } : Jvm.MethodName) object_method_1_code (1 : Nat) (Option.none : Option Jvm.ClassFile.FieldType)).before args0 about1 = true := code_word (m := ⟨0, 0⟩) (meth := k0m0) (c := k0c0) (by decide +kernel) rfl rfl rfl (by decide +kernel)
set_option maxRecDepth 65536 in
theorem w_c4 : (Jvm.Cond.code ({ cls := "com/example/ferry2/ferry2/store/PendingMessages", name := "<init>", desc := "()V" } : Jvm.MethodName) prog_38_method_1_code (1 : Nat) (Option.none : Option Jvm.ClassFile.FieldType)).before args0 about1 = true := code_word (m := ⟨13, 0⟩) (meth := k13m0) (c := k13c0) (by decide +kernel) rfl rfl rfl (by decide +kernel)
set_option maxRecDepth 65536 in
theorem w_c5 : (Jvm.Cond.code ({ cls := "java/util/AbstractCollection", name := "<init>", desc := "()V" } : Jvm.MethodName) jdk_22_method_1_code (1 : Nat) (Option.none : Option Jvm.ClassFile.FieldType)).before args0 about1 = true := code_word (m := ⟨12, 0⟩) (meth := k12m0) (c := k12c0) (by decide +kernel) rfl rfl rfl (by decide +kernel)
set_option maxRecDepth 65536 in
theorem w_c6 : (Jvm.Cond.code ({ cls := "java/util/LinkedHashMap", name := "<init>", desc := "()V" } : Jvm.MethodName) jdk_94_method_16_code (1 : Nat) (Option.none : Option Jvm.ClassFile.FieldType)).before args0 about1 = true := code_word (m := ⟨20, 1⟩) (meth := k20m1) (c := k20c1) (by decide +kernel) rfl rfl rfl (by decide +kernel)
set_option maxRecDepth 65536 in
theorem w_c7 : (Jvm.Cond.code ({ cls := "java/util/HashMap", name := "<init>", desc := "()V" } : Jvm.MethodName) jdk_69_method_7_code (1 : Nat) (Option.none : Option Jvm.ClassFile.FieldType)).before args0 about1 = true := code_word (m := ⟨18, 2⟩) (meth := k18m2) (c := k18c2) (by decide +kernel) rfl rfl rfl (by decide +kernel)
set_option maxRecDepth 65536 in
theorem w_c8 : (Jvm.Cond.code ({ cls := "java/util/AbstractMap", name := "<init>", desc := "()V" } : Jvm.MethodName) jdk_71_method_1_code (1 : Nat) (Option.none : Option Jvm.ClassFile.FieldType)).before args0 about1 = true := code_word (m := ⟨16, 0⟩) (meth := k16m0) (c := k16c0) (by decide +kernel) rfl rfl rfl (by decide +kernel)
set_option maxRecDepth 65536 in
theorem w_c9 : (Jvm.Cond.code ({ cls := "java/util/LinkedHashSet", name := "<init>", desc := "()V" } : Jvm.MethodName) jdk_2620_method_3_code (1 : Nat) (Option.none : Option Jvm.ClassFile.FieldType)).before args0 about1 = true := code_word (m := ⟨26, 0⟩) (meth := k26m0) (c := k26c0) (by decide +kernel) rfl rfl rfl (by decide +kernel)
set_option maxRecDepth 65536 in
theorem w_c10 : (Jvm.Cond.code ({ cls := "java/util/HashSet", name := "<init>", desc := "(IFZ)V" } : Jvm.MethodName) jdk_93_method_5_code (4 : Nat) (Option.none : Option Jvm.ClassFile.FieldType)).before args0 about1 = true := code_word (m := ⟨23, 1⟩) (meth := k23m1) (c := k23c1) (by decide +kernel) rfl rfl rfl (by decide +kernel)
set_option maxRecDepth 65536 in
theorem w_c11 : (Jvm.Cond.code ({ cls := "java/util/AbstractSet", name := "<init>", desc := "()V" } : Jvm.MethodName) jdk_91_method_1_code (1 : Nat) (Option.none : Option Jvm.ClassFile.FieldType)).before args0 about1 = true := code_word (m := ⟨22, 0⟩) (meth := k22m0) (c := k22c0) (by decide +kernel) rfl rfl rfl (by decide +kernel)
set_option maxRecDepth 65536 in
theorem w_c12 : (Jvm.Cond.code ({ cls := "java/util/LinkedHashMap", name := "<init>", desc := "(IF)V" } : Jvm.MethodName) jdk_94_method_14_code (3 : Nat) (Option.none : Option Jvm.ClassFile.FieldType)).before args0 about1 = true := code_word (m := ⟨20, 0⟩) (meth := k20m0) (c := k20c0) (by decide +kernel) rfl rfl rfl (by decide +kernel)
set_option maxRecDepth 65536 in
theorem w_c13 : (Jvm.Cond.code ({ cls := "java/util/HashMap", name := "<init>", desc := "(IF)V" } : Jvm.MethodName) jdk_69_method_5_code (3 : Nat) (Option.none : Option Jvm.ClassFile.FieldType)).before args0 about1 = true := code_word (m := ⟨18, 1⟩) (meth := k18m1) (c := k18c1) (by decide +kernel) rfl rfl rfl (by decide +kernel)
set_option maxRecDepth 65536 in
theorem w_c14 : (Jvm.Cond.code ({ cls := "java/lang/Float", name := "isNaN", desc := "(F)Z" } : Jvm.MethodName) jdk_118_method_6_code (1 : Nat) (Option.some Jvm.ClassFile.FieldType.boolean)).before args0 about1 = true := code_word (m := ⟨28, 0⟩) (meth := k28m0) (c := k28c0) (by decide +kernel) rfl rfl rfl (by decide +kernel)
set_option maxRecDepth 65536 in
theorem w_c15 : (Jvm.Cond.code ({ cls := "java/util/HashMap", name := "tableSizeFor", desc := "(I)I" } : Jvm.MethodName) jdk_69_method_4_code (2 : Nat) (Option.some Jvm.ClassFile.FieldType.int)).before args0 about1 = true := code_word (m := ⟨18, 0⟩) (meth := k18m0) (c := k18c0) (by decide +kernel) rfl rfl rfl (by decide +kernel)
set_option maxRecDepth 65536 in
theorem w_c16 : (Jvm.Cond.code ({ cls := "java/lang/Integer", name := "numberOfLeadingZeros", desc := "(I)I" } : Jvm.MethodName) jdk_33_method_47_code (2 : Nat) (Option.some Jvm.ClassFile.FieldType.int)).before args0 about1 = true := code_word (m := ⟨29, 0⟩) (meth := k29m0) (c := k29c0) (by decide +kernel) rfl rfl rfl (by decide +kernel)
set_option maxRecDepth 65536 in
theorem w_c17 : (Jvm.Cond.code ({ cls := "java/util/HashSet", name := "<init>", desc := "()V" } : Jvm.MethodName) jdk_93_method_1_code (1 : Nat) (Option.none : Option Jvm.ClassFile.FieldType)).before args0 about1 = true := code_word (m := ⟨23, 0⟩) (meth := k23m0) (c := k23c0) (by decide +kernel) rfl rfl rfl (by decide +kernel)
set_option maxRecDepth 65536 in
theorem w_c18 : (Jvm.Cond.code ({ cls := "com/example/ferry2/ferry2/store/Session", name := "expiry", desc := "()J" } : Jvm.MethodName) prog_43_method_5_code (1 : Nat) (Option.some Jvm.ClassFile.FieldType.long)).before args0 about1 = true := code_word (m := ⟨3, 1⟩) (meth := k3m1) (c := k3c1) (by decide +kernel) rfl rfl rfl (by decide +kernel)
def codes1 : List Jvm.Cond := [Jvm.Cond.code x code maxLocals ret, Jvm.Cond.code ({ cls := "com/example/ferry2/ferry2/store/Session", name := "<init>", desc := "(JLjava/lang/String;)V" } : Jvm.MethodName) prog_43_method_1_code (4 : Nat) (Option.none : Option Jvm.ClassFile.FieldType), Jvm.Cond.code ({ cls := "com/example/ferry2/ferry2/store/Endpoint", name := "<init>", desc := "(J)V" } : Jvm.MethodName) prog_37_method_1_code (3 : Nat) (Option.none : Option Jvm.ClassFile.FieldType), Jvm.Cond.code ({ cls := "java/lang/Object", name := "<init>", desc := "()V" } : Jvm.MethodName) object_method_1_code (1 : Nat) (Option.none : Option Jvm.ClassFile.FieldType), Jvm.Cond.code ({ cls := "com/example/ferry2/ferry2/store/PendingMessages", name := "<init>", desc := "()V" } : Jvm.MethodName) prog_38_method_1_code (1 : Nat) (Option.none : Option Jvm.ClassFile.FieldType), Jvm.Cond.code ({ cls := "java/util/AbstractCollection", name := "<init>", desc := "()V" } : Jvm.MethodName) jdk_22_method_1_code (1 : Nat) (Option.none : Option Jvm.ClassFile.FieldType), Jvm.Cond.code ({ cls := "java/util/LinkedHashMap", name := "<init>", desc := "()V" } : Jvm.MethodName) jdk_94_method_16_code (1 : Nat) (Option.none : Option Jvm.ClassFile.FieldType), Jvm.Cond.code ({ cls := "java/util/HashMap", name := "<init>", desc := "()V" } : Jvm.MethodName) jdk_69_method_7_code (1 : Nat) (Option.none : Option Jvm.ClassFile.FieldType), Jvm.Cond.code ({ cls := "java/util/AbstractMap", name := "<init>", desc := "()V" } : Jvm.MethodName) jdk_71_method_1_code (1 : Nat) (Option.none : Option Jvm.ClassFile.FieldType), Jvm.Cond.code ({ cls := "java/util/LinkedHashSet", name := "<init>", desc := "()V" } : Jvm.MethodName) jdk_2620_method_3_code (1 : Nat) (Option.none : Option Jvm.ClassFile.FieldType), Jvm.Cond.code ({ cls := "java/util/HashSet", name := "<init>", desc := "(IFZ)V" } : Jvm.MethodName) jdk_93_method_5_code (4 : Nat) (Option.none : Option Jvm.ClassFile.FieldType), Jvm.Cond.code ({ cls := "java/util/AbstractSet", name := "<init>", desc := "()V" } : Jvm.MethodName) jdk_91_method_1_code (1 : Nat) (Option.none : Option Jvm.ClassFile.FieldType), Jvm.Cond.code ({ cls := "java/util/LinkedHashMap", name := "<init>", desc := "(IF)V" } : Jvm.MethodName) jdk_94_method_14_code (3 : Nat) (Option.none : Option Jvm.ClassFile.FieldType), Jvm.Cond.code ({ cls := "java/util/HashMap", name := "<init>", desc := "(IF)V" } : Jvm.MethodName) jdk_69_method_5_code (3 : Nat) (Option.none : Option Jvm.ClassFile.FieldType), Jvm.Cond.code ({ cls := "java/lang/Float", name := "isNaN", desc := "(F)Z" } : Jvm.MethodName) jdk_118_method_6_code (1 : Nat) (Option.some Jvm.ClassFile.FieldType.boolean), Jvm.Cond.code ({ cls := "java/util/HashMap", name := "tableSizeFor", desc := "(I)I" } : Jvm.MethodName) jdk_69_method_4_code (2 : Nat) (Option.some Jvm.ClassFile.FieldType.int), Jvm.Cond.code ({ cls := "java/lang/Integer", name := "numberOfLeadingZeros", desc := "(I)I" } : Jvm.MethodName) jdk_33_method_47_code (2 : Nat) (Option.some Jvm.ClassFile.FieldType.int), Jvm.Cond.code ({ cls := "java/util/HashSet", name := "<init>", desc := "()V" } : Jvm.MethodName) jdk_93_method_1_code (1 : Nat) (Option.none : Option Jvm.ClassFile.FieldType), Jvm.Cond.code ({ cls := "com/example/ferry2/ferry2/store/Session", name := "expiry", desc := "()J" } : Jvm.MethodName) prog_43_method_5_code (1 : Nat) (Option.some Jvm.ClassFile.FieldType.long)]
set_option maxRecDepth 65536 in
theorem codes_eq : words1.filter isCode = codes1 := rfl
theorem w_codes : ∀ c ∈ words1.filter isCode, c.before args0 about1 = true := by
  rw [codes_eq]
  intro c hc
  simp only [codes1, List.mem_cons, List.not_mem_nil, or_false] at hc
  rcases hc with rfl | rfl | rfl | rfl | rfl | rfl | rfl | rfl | rfl | rfl | rfl | rfl | rfl | rfl | rfl | rfl | rfl | rfl | rfl
  · exact w_c0
  · exact w_c1
  · exact w_c2
  · exact w_c3
  · exact w_c4
  · exact w_c5
  · exact w_c6
  · exact w_c7
  · exact w_c8
  · exact w_c9
  · exact w_c10
  · exact w_c11
  · exact w_c12
  · exact w_c13
  · exact w_c14
  · exact w_c15
  · exact w_c16
  · exact w_c17
  · exact w_c18
set_option maxRecDepth 65536 in
theorem w_t1 : (words1.take 24).all (fun c => isCode c || c.before args0 about1) = true := by decide +kernel
set_option maxRecDepth 65536 in
theorem w_t2 : ((words1.drop 24).take 24).all (fun c => isCode c || c.before args0 about1) = true := by decide +kernel
set_option maxRecDepth 65536 in
theorem w_t3 : (((words1.drop 24).drop 24).take 24).all (fun c => isCode c || c.before args0 about1) = true := by decide +kernel
set_option maxRecDepth 65536 in
theorem w_t4 : ((((words1.drop 24).drop 24).drop 24).take 24).all (fun c => isCode c || c.before args0 about1) = true := by decide +kernel
set_option maxRecDepth 65536 in
theorem w_t5 : (((((words1.drop 24).drop 24).drop 24).drop 24).take 24).all (fun c => isCode c || c.before args0 about1) = true := by decide +kernel
set_option maxRecDepth 65536 in
theorem w_t6 : ((((((words1.drop 24).drop 24).drop 24).drop 24).drop 24).take 24).all (fun c => isCode c || c.before args0 about1) = true := by decide +kernel
set_option maxRecDepth 65536 in
theorem w_t7 : ((((((words1.drop 24).drop 24).drop 24).drop 24).drop 24).drop 24).all (fun c => isCode c || c.before args0 about1) = true := by decide +kernel
theorem w_tables : (allAtoms (Jvm.Cond.code x code maxLocals ret :: tables_1)).before args0 about1 = true := by
  rw [allAtoms_all]
  show words1.all (fun c => c.before args0 about1) = true
  refine all_split ?_ w_codes
  rw [← List.take_append_drop 24 words1, List.all_append, w_t1, ← List.take_append_drop 24 (words1.drop 24), List.all_append, w_t2, ← List.take_append_drop 24 ((words1.drop 24).drop 24), List.all_append, w_t3, ← List.take_append_drop 24 (((words1.drop 24).drop 24).drop 24), List.all_append, w_t4, ← List.take_append_drop 24 ((((words1.drop 24).drop 24).drop 24).drop 24), List.all_append, w_t5, ← List.take_append_drop 24 (((((words1.drop 24).drop 24).drop 24).drop 24).drop 24), List.all_append, w_t6, w_t7]
  rfl
set_option maxRecDepth 65536 in
theorem w_case : (Jvm.Cond.and given_1 narrow_1).before args0 about1 = true := by decide +kernel
theorem w_applies : (headSpec (Jvm.Cond.code x code maxLocals ret :: tables_1) room_1).applies x e0.platform about1 = true :=
  (Spec.applies_iff w_frames).mpr ⟨w_running, w_runnable, w_alone, w_named, w_hears, w_ripe, w_room, w_tables⟩
theorem atStart : AtStart classFile x code maxLocals ret World_1 tables_1 room_1 Calls_1 rest_1 Pre_1 launch0 p0 e0 about1 theMethod args0 below0 :=
  ⟨lists_1, trivial, launch0.admits_env _ _ _, launch0.least_env, fairChoices_fair.cas, fairChoices_fair.clock, w_frames, w_args, w_heap, w_applies, trivial, trivial, w_case⟩
end start1
theorem witness_1 : WitnessClaimed_1 := ⟨start1.p0, start1.e0, start1.about1, start1.theMethod, start1.args0, start1.below0, start1.atStart⟩
end Jvm.Pilot.@@N@@
