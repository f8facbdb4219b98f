import JvmDerived
import JvmDerived.Pilot.@@N@@Statement
import JvmDerived.Pilot.@@N@@Code
set_option linter.unusedVariables false
set_option linter.unusedSimpArgs false
namespace Jvm.Pilot.@@N@@
open Jvm Jvm.ClassFile Sem Op Lib Jvm.Free Jvm.Stand Jvm.LawKit Jvm.RoadKit Bundle Jvm.Pilot.@@N@@.Jvm.D
/-- from S the run comes to a state that P allows -/
def Comes (p : Program) (e : Env) (below : List Frame) (P : State → Prop) (S : State) : Prop := ∃ S', Steps p.tables e below S S' ∧ P S'
/-- how a body ends that Q allows -/
def EndsAt (below : List Frame) (s : State) (Q : Option Value → Heap → List Loc → Prop) (kc ks : Nat) (s₂ : State) : Prop := ∃ o, s₂.status = .running ∧ Ended s₂ below o ∧ ∃ v L, o = .returned v ∧ Q v s₂.heap L ∧ FrameEnd s o s₂ L kc ks
/-- an array of ints, its content a function -/
def Ari (Z : State) (h : Heap) (a : Nat) (n : Nat) (f : Nat → Int32) : Prop := ∃ c : Cell, Arr Z h a c .int ∧ c.slots.size = n ∧ ∀ i, i < n → c.slots[i]? = some (.int (f i))
section OwnAri
variable {Z : State} {h h' : Heap} {a b n sl : Nat} {f : Nat → Int32} {v : Value} {ws : List Addr}
theorem Ari.lt (F : Ari Z h a n f) : a < h.size := by obtain ⟨c, A, -⟩ := F; exact A.lt
theorem Ari.ext (F : Ari Z h a n f) (E : Ext h h') : Ari Z h' a n f := by obtain ⟨c, A, r⟩ := F; exact ⟨c, A.ext E, r⟩
theorem Ari.other (F : Ari Z h b n f) (W : Wr h h' a sl v) (q : b ≠ a) : Ari Z h' b n f := by obtain ⟨c, A, r⟩ := F; exact ⟨c, A.other W q, r⟩
theorem Ari.keep (F : Ari Z h a n f) (K : Keep h h' ws) (q : a ∉ ws) : Ari Z h' a n f := by obtain ⟨c, A, r⟩ := F; exact ⟨c, ⟨K.2.1 a c A.1 q, A.2⟩, r⟩
theorem Ari.new {k : ClassId} {z : Int32} (A : Arr Z h a (newA k .int z) .int) (q : z.toNatClampNeg = n) : Ari Z h a n (fun _ => 0) := by
  refine ⟨_, A, by rw [sz_new, q], fun i hi => ?_⟩
  simp [newA, q, hi, defaultValue]
theorem Ari.set {c : Cell} (A : Arr Z h a c .int) (S : c.slots.size = n) (H : ∀ i, i < n → c.slots[i]? = some (.int (f i))) {j x : Int32} {k : Nat} (W : Wr h h' a j.toNatClampNeg (.int x)) (hk : j.toNatClampNeg = k) : Ari Z h' a n (fun i => if i = k then x else f i) := by
  subst hk
  refine ⟨_, A.same W, by rw [sz_set]; exact S, fun i hi => ?_⟩
  by_cases q : i = j.toNatClampNeg
  · subst q; simp [Cell.setSlot, S, hi]
  · show _ = some (Value.int (if i = j.toNatClampNeg then x else f i))
    rw [if_neg q, ← H i hi]; exact Array.getElem?_setIfInBounds_ne (fun z => q z.symm)
end OwnAri
section Own
variable {p : Program} {l : Launch} {e : Env} {R : Room} {s : State} {m : MethodId} {args : Array Value} {below : List Frame} {meth : Method} {c : Code} {T : State} {locs : List Loc} {cells slots : Nat} {Q : Option Value → Heap → List Loc → Prop} {kc ks : Nat} {P : State → Prop} {S S' : State} {h : Heap}
theorem Comes.here (q : P S) : Comes p e below P S := ⟨S, Steps.refl _, q⟩
theorem Comes.st (f : ∀ t, Steps p.tables e below S' t → Steps p.tables e below S t) (g : Comes p e below P S') : Comes p e below P S := by
  obtain ⟨s₂, h1, r⟩ := g; exact ⟨s₂, f _ h1, r⟩
theorem Comes.go (f : Steps p.tables e below S S') (g : Comes p e below P S') : Comes p e below P S := by
  obtain ⟨s₂, h1, r⟩ := g; exact ⟨s₂, f.trans h1, r⟩
theorem Comes.cast {g g' : JFrame} (q : g = g') (k : Comes p e below P (T.setTop g')) : Comes p e below P (T.setTop g) := q ▸ k
theorem Comes.out (h : Comes p e below (EndsAt below s Q kc ks) S) : ∃ s₂ o, Steps p.tables e below S s₂ ∧ s₂.status = .running ∧ Ended s₂ below o ∧ ∃ v L, o = .returned v ∧ Q v s₂.heap L ∧ FrameEnd s o s₂ L kc ks := by
  obtain ⟨s₂, h1, o, r⟩ := h; exact ⟨s₂, o, h1, r⟩
theorem Comes.fin (X : Stand p l e R s m args below meth c T locs cells slots) {v : Option Value} (hv : meth.sig.returnType = none → v = none) (hlk : meth.locks = false)
    (hs : ∀ fs, (∀ (f : JFrame) (acts : List Action), f.method = m → f.locked = none → f.entered = [] → (doReturn e (T.setTop f) acts v).1 = T.setFrames fs) → Steps p.tables e below S (T.setFrames fs))
    (eT : T.heap = h) (hq : Q v h locs) (hc : cells ≤ kc) (hl : slots ≤ ks) : Comes p e below (EndsAt below s Q kc ks) S := by
  obtain ⟨fs, hr, hrun, hended, hW, hsame⟩ := X.leave (v := v) hv hlk
  exact ⟨_, hs fs hr, _, hrun, hended, _, _, rfl, (show Q v T.heap locs from by rw [eT]; exact hq), ⟨_, rfl⟩, hW, hsame.mono hc hl⟩
theorem Comes.ret0 (X : Stand p l e R s m args below meth c T locs cells slots) (hx : p.tables.exec = Jvm.exec) {pc : Nat} {Ls : Array Slot} (hret : meth.sig.returnType = none) (hlk : meth.locks = false) (hd : decode c.code pc = .ok (.return_, 1))
    (eT : T.heap = h) (hq : Q none h locs) (hc : cells ≤ kc) (hl : slots ≤ ks) : Comes p e below (EndsAt below s Q kc ks) (T.setTop (mkF m pc Ls [])) :=
  Comes.fin X (fun _ => rfl) hlk (fun _ hr => X.returnOut hx hret hd hr) eT hq hc hl
theorem Comes.retN (X : Stand p l e R s m args below meth c T locs cells slots) (hx : p.tables.exec = Jvm.exec) {pc : Nat} {Ls : Array Slot} {z : Int32} {t : FieldType} {rest : List Value} (hret : meth.sig.returnType = some t) (ht : t = .boolean ∨ t = .byte ∨ t = .char ∨ t = .short) (hlk : meth.locks = false) (hd : decode c.code pc = .ok (.ireturn, 1))
    (eT : T.heap = h) (hq : Q (some (.int (nar t z))) h locs) (hc : cells ≤ kc) (hl : slots ≤ ks) : Comes p e below (EndsAt below s Q kc ks) (T.setTop (mkF m pc Ls (.int z :: rest))) :=
  Comes.fin X (fun q => by rw [hret] at q; cases q) hlk (fun _ hr => Jvm.RoadKit.retN X hx hret ht hd hr) eT hq hc hl
theorem Comes.retV (X : Stand p l e R s m args below meth c T locs cells slots) (hx : p.tables.exec = Jvm.exec) {pc : Nat} {Ls : Array Slot} {w : Value} {t : FieldType} {i : Instr} {rest : List Value} (hret : meth.sig.returnType = some t) (hn : narrow t w = w)
    (hi : (i = .ireturn ∧ (t = .int ∨ t = .boolean ∨ t = .byte ∨ t = .char ∨ t = .short) ∧ ∃ z, w = .int z) ∨ (i = .lreturn ∧ t = .long ∧ ∃ z, w = .long z) ∨ (i = .dreturn ∧ t = .double ∧ ∃ z, w = .double z) ∨ (i = .freturn ∧ t = .float ∧ ∃ z, w = .float z) ∨ (i = .areturn ∧ t.isReference = true ∧ w.isRef = true))
    (hlk : meth.locks = false) (hd : decode c.code pc = .ok (i, 1))
    (eT : T.heap = h) (hq : Q (some w) h locs) (hc : cells ≤ kc) (hl : slots ≤ ks) : Comes p e below (EndsAt below s Q kc ks) (T.setTop (mkF m pc Ls (w :: rest))) :=
  Comes.fin X (fun q => by rw [hret] at q; cases q) hlk (fun _ hr => retOut X hx hret hn hi hd hr) eT hq hc hl
/-- the same where the frame is the wide one -/
def EndsAtW (below : List Frame) (s : State) (Q : Option Value → Heap → List Loc → Prop) (kc ks : Nat) (s₂ : State) : Prop := ∃ o, s₂.status = .running ∧ Ended s₂ below o ∧ ∃ v L, o = .returned v ∧ Q v s₂.heap L ∧ ReturnedEndW s o s₂ L kc ks
theorem Comes.outW (h : Comes p e below (EndsAtW below s Q kc ks) S) : ∃ s₂ o, Steps p.tables e below S s₂ ∧ s₂.status = .running ∧ Ended s₂ below o ∧ ∃ v L, o = .returned v ∧ Q v s₂.heap L ∧ ReturnedEndW s o s₂ L kc ks := by
  obtain ⟨s₂, h1, o, r⟩ := h; exact ⟨s₂, o, h1, r⟩
theorem Comes.wretN {vm₁ : Vm} {n : Nat} (X : Stand p l e R (s.setVm vm₁) m args below meth c T locs cells slots) (hx : p.tables.exec = Jvm.exec) {pc : Nat} {Ls : Array Slot} {z : Int32} {t : FieldType} {rest : List Value} (hret : meth.sig.returnType = some t) (ht : t = .boolean ∨ t = .byte ∨ t = .char ∨ t = .short) (hlk : meth.locks = false) (hd : decode c.code pc = .ok (.ireturn, 1))
    (hS : s.Since vm₁ n) (hn : n ≤ h.size) (eT : T.heap = h) (hq : Q (some (.int (nar t z))) h locs) (hc : cells ≤ kc) (hl : slots ≤ ks) : Comes p e below (EndsAtW below s Q kc ks) (T.setTop (mkF m pc Ls (.int z :: rest))) := by
  obtain ⟨fs, hr, hrun, hended, h1, h2, h3, h4⟩ := X.leaveW hS (by rw [eT]; exact hn) (v := some (.int (nar t z))) (fun q => by rw [hret] at q; cases q) hlk
  exact ⟨_, Jvm.RoadKit.retN X hx hret ht hd hr, _, hrun, hended, _, _, rfl, (show Q _ T.heap locs from by rw [eT]; exact hq), h1, h2, h3, h4.mono hc hl⟩
theorem narrow_ref {t : FieldType} {w : Value} (h : w.isRef = true) : narrow t w = w := by rcases ref_cases h with rfl | ⟨y, rfl⟩ <;> cases t <;> rfl
theorem lremM {g : JFrame} {target : State} (X : Stand p l e R s m args below meth c T locs cells slots) (hx : p.tables.exec = Jvm.exec) (hg : g.method = m) {x y : Int64} {rest : List Value} (hd : decode c.code g.pc = .ok (.lrem, 1)) (hs : g.stack = .long y :: .long x :: rest) (hy : ¬ y = 0)
    (hr : Steps p.tables e below (T.setTop { g with pc := g.pc + 1, stack := .long (x % y) :: rest }) target) : Steps p.tables e below (T.setTop g) target := by
  have q : x - x / y * y = x % y := lrem_mod x y
  exact XT.lrem X.here hx hg hd hs hy (by rw [q]; exact hr)
theorem own_dup2 {g : JFrame} {target : State} (X : Stand p l e R s m args below meth c T locs cells slots) (hx : p.tables.exec = Jvm.exec) (hg : g.method = m) {x y : Value} {rest : List Value} (hd : decode c.code g.pc = .ok (.dup2, 1)) (hs : g.stack = x :: y :: rest) (hcx : x.category = 1) (hcy : y.category = 1)
    (hr : Steps p.tables e below (T.setTop { g with pc := g.pc + 1, stack := x :: y :: x :: y :: rest }) target) : Steps p.tables e below (T.setTop g) target := by
  subst hg
  jvm_step X.here [X.here.top, hx, hd, hs, hcx, hcy]
  exact hr
theorem own_inb {j : Int32} {n : Nat} (h : 0 ≤ j.toInt ∧ j.toInt < (n : Int)) : ¬ (j < 0 ∨ n ≤ j.toNatClampNeg) := by
  rw [Int32.lt_iff_toInt_lt]; simp only [Int32.toNatClampNeg, Int32.reduceToInt]; omega
theorem own_lrem (x y : Int64) (d : Int) (hy : y.toInt = d) : (0 ≤ x.toInt → (x % y).toInt = x.toInt % d) ∧ (x.toInt < 0 → (x % y).toInt = -((-x.toInt) % d)) := by rw [Int64.toInt_mod, hy]; exact tr _ _
theorem own_lremV (x y : Int64) : 0 ≤ x.toInt → 0 < y.toInt → 0 ≤ (x % y).toInt ∧ (x % y).toInt < y.toInt := by
  intro h1 h2
  rw [Int64.toInt_mod, Int.tmod_eq_emod_of_nonneg h1]
  exact ⟨Int.emod_nonneg _ (by omega), Int.emod_lt_of_pos _ h2⟩
theorem own_eqi {a0 : Array Value} {Z : State} {t : Term} {k : Int32} {idx : List Nat} (h : (Jvm.Cond.eq t (Term.int k)).value a0 Z none Z idx = some true) : t.eval a0 Z none idx Z = some (.int k) := by
  obtain ⟨x, y, e1, e2, k1, k2⟩ := cmp_v (Or.inl h)
  simp only [Term.eval, Option.some.injEq] at e2
  subst e2
  obtain ⟨z, rfl⟩ := k2
  simp [Cond.value, e1, Term.eval] at h
  rw [e1, h]
theorem own_selp {a0 : Array Value} {Z : State} {y : MethodName} {n : Nat} (wi : (Jvm.Cond.instantiable y.cls n).before a0 Z = true) (wp : (Jvm.Cond.privateMethod y).before a0 Z = true) (wm : (Jvm.Cond.instanceMethod y).before a0 Z = true) (hy : y.cls ≠ "java/lang/invoke/MethodHandle" ∧ y.cls ≠ "java/lang/invoke/VarHandle") : (Jvm.Cond.selects y.cls y y).before a0 Z = true := by
  obtain ⟨c, k, h1, h2, h3, h4, -⟩ := Cond.instantiable_spec wi
  exact Jvm.Stand.selects_self_of_private h1 h2 (by simp only [Bool.or_eq_false_iff] at h4; exact h4.1) (Cond.privateMethod_at wp) wm hy
theorem own_eqr {a0 : Array Value} {Z : State} {t u : Term} {y : Value} {idx : List Nat} (h : (Jvm.Cond.eq t u).value a0 Z none Z idx = some true) (hu : u.eval a0 Z none idx Z = some y) (hy : y.isRef = true) : t.eval a0 Z none idx Z = some y := by
  obtain ⟨x, y', e1, e2, k1, k2⟩ := cmp_v (Or.inl h)
  cases hu.symm.trans e2
  have hx : x.isRef = true := by
    rcases ref_cases hy with rfl | ⟨z, rfl⟩ <;> cases x <;> simp_all [Kin, Value.isRef]
  rw [e1, gotT (eq_R e1 hu hx hy) h]
theorem own_len {a0 : Array Value} {Z : State} {t : Term} {a : Addr} {cl : Cell} {ty : FieldType} {k : Int32} (ht : t.eval a0 Z none [] Z = some (.ref a)) (A : Arr Z Z.heap a cl ty) (h : (Jvm.Cond.eq (Term.length t) (Term.int k)).value a0 Z none Z [] = some true) : cl.slots.size < 2 ^ 31 ∧ cl.slots.size.toInt32 = k := by
  have e := own_eqi h
  have e2 := A.fin (Vm.Alike.refl _)
  simp [Term.eval, ht, e2] at e
  exact ⟨by omega, e.2⟩
theorem own_elem {a0 : Array Value} {Z : State} {t u : Term} {a : Addr} {cl : Cell} {j : Int32} {y : Value} (ht : t.eval a0 Z none [] Z = some (.ref a)) (hc : Z.heap[a]? = some cl) (h : (Jvm.Cond.eq (Term.elem t (Term.int j)) u).value a0 Z none Z [] = some true) (hu : u.eval a0 Z none [] Z = some y) (hy : y.isRef = true) : cl.slots[j.toNatClampNeg]? = some y := (elem_in (own_eqr h hu hy) ht (by rfl) hc).2
theorem own_fldi {a0 : Array Value} {Z : State} {t : Term} {k : Int32} {a : Addr} {C n d : String} (ht : t.eval a0 Z none [] Z = some (.ref a)) (h : (Jvm.Cond.eq (Term.field t C n d) (Term.int k)).value a0 Z none Z [] = some true) : Fld Z Z.heap a C n d (.int k) := Fld.start ((fld_at ht).symm.trans (own_eqi h))
end Own
theorem d6_0 : decode jdk_52_method_21_code 0 = .ok (.iconst 0, 1) := by decide +kernel
theorem d6_1 : decode jdk_52_method_21_code 1 = .ok (.istore 5, 2) := by decide +kernel
theorem d6_3 : decode jdk_52_method_21_code 3 = .ok (.iload 5, 2) := by decide +kernel
theorem d6_5 : decode jdk_52_method_21_code 5 = .ok (.iload 4, 2) := by decide +kernel
theorem d6_7 : decode jdk_52_method_21_code 7 = .ok (.if_icmp .ge 37, 3) := by decide +kernel
theorem d6_10 : decode jdk_52_method_21_code 10 = .ok (.aload_n 0, 1) := by decide +kernel
theorem d6_11 : decode jdk_52_method_21_code 11 = .ok (.iload_n 1, 1) := by decide +kernel
theorem d6_12 : decode jdk_52_method_21_code 12 = .ok (.caload, 1) := by decide +kernel
theorem d6_13 : decode jdk_52_method_21_code 13 = .ok (.istore 6, 2) := by decide +kernel
theorem d6_15 : decode jdk_52_method_21_code 15 = .ok (.iload 6, 2) := by decide +kernel
theorem d6_17 : decode jdk_52_method_21_code 17 = .ok (.sipush 255, 3) := by decide +kernel
theorem d6_20 : decode jdk_52_method_21_code 20 = .ok (.if_icmp .le 6, 3) := by decide +kernel
theorem d6_26 : decode jdk_52_method_21_code 26 = .ok (.aload_n 2, 1) := by decide +kernel
theorem d6_27 : decode jdk_52_method_21_code 27 = .ok (.iload_n 3, 1) := by decide +kernel
theorem d6_28 : decode jdk_52_method_21_code 28 = .ok (.iload 6, 2) := by decide +kernel
theorem d6_30 : decode jdk_52_method_21_code 30 = .ok (.i2b, 1) := by decide +kernel
theorem d6_31 : decode jdk_52_method_21_code 31 = .ok (.bastore, 1) := by decide +kernel
theorem d6_32 : decode jdk_52_method_21_code 32 = .ok (.iinc 1 1, 3) := by decide +kernel
theorem d6_35 : decode jdk_52_method_21_code 35 = .ok (.iinc 3 1, 3) := by decide +kernel
theorem d6_38 : decode jdk_52_method_21_code 38 = .ok (.iinc 5 1, 3) := by decide +kernel
theorem d6_41 : decode jdk_52_method_21_code 41 = .ok (.goto (-38), 3) := by decide +kernel
theorem d6_44 : decode jdk_52_method_21_code 44 = .ok (.iload 4, 2) := by decide +kernel
theorem d6_46 : decode jdk_52_method_21_code 46 = .ok (.ireturn, 1) := by decide +kernel
theorem d5_0 : decode jdk_52_method_16_code 0 = .ok (.iload_n 2, 1) := by decide +kernel
theorem d5_1 : decode jdk_52_method_16_code 1 = .ok (.newarray .byte, 2) := by decide +kernel
theorem d5_3 : decode jdk_52_method_16_code 3 = .ok (.astore_n 3, 1) := by decide +kernel
theorem d5_4 : decode jdk_52_method_16_code 4 = .ok (.aload_n 0, 1) := by decide +kernel
theorem d5_5 : decode jdk_52_method_16_code 5 = .ok (.iload_n 1, 1) := by decide +kernel
theorem d5_6 : decode jdk_52_method_16_code 6 = .ok (.aload_n 3, 1) := by decide +kernel
theorem d5_7 : decode jdk_52_method_16_code 7 = .ok (.iconst 0, 1) := by decide +kernel
theorem d5_8 : decode jdk_52_method_16_code 8 = .ok (.iload_n 2, 1) := by decide +kernel
theorem d5_9 : decode jdk_52_method_16_code 9 = .ok (.invokestatic 115, 3) := by decide +kernel
theorem d5_12 : decode jdk_52_method_16_code 12 = .ok (.istore 4, 2) := by decide +kernel
theorem d5_14 : decode jdk_52_method_16_code 14 = .ok (.iload 4, 2) := by decide +kernel
theorem d5_16 : decode jdk_52_method_16_code 16 = .ok (.iload_n 2, 1) := by decide +kernel
theorem d5_17 : decode jdk_52_method_16_code 17 = .ok (.if_icmp .eq 40, 3) := by decide +kernel
theorem d5_57 : decode jdk_52_method_16_code 57 = .ok (.aload_n 3, 1) := by decide +kernel
theorem d5_58 : decode jdk_52_method_16_code 58 = .ok (.areturn, 1) := by decide +kernel
theorem d7_0 : decode jdk_52_method_15_code 0 = .ok (.iload_n 1, 1) := by decide +kernel
theorem d7_1 : decode jdk_52_method_15_code 1 = .ok (.aload_n 0, 1) := by decide +kernel
theorem d7_2 : decode jdk_52_method_15_code 2 = .ok (.arraylength, 1) := by decide +kernel
theorem d7_3 : decode jdk_52_method_15_code 3 = .ok (.isub, 1) := by decide +kernel
theorem d7_4 : decode jdk_52_method_15_code 4 = .ok (.bipush 31, 2) := by decide +kernel
theorem d7_6 : decode jdk_52_method_15_code 6 = .ok (.iushr, 1) := by decide +kernel
theorem d7_7 : decode jdk_52_method_15_code 7 = .ok (.i2b, 1) := by decide +kernel
theorem d7_8 : decode jdk_52_method_15_code 8 = .ok (.ireturn, 1) := by decide +kernel
theorem d3_0 : decode jdk_42_method_149_code 0 = .ok (.aload_n 0, 1) := by decide +kernel
theorem d3_1 : decode jdk_42_method_149_code 1 = .ok (.invokespecial 1, 3) := by decide +kernel
theorem d3_4 : decode jdk_42_method_149_code 4 = .ok (.iload_n 3, 1) := by decide +kernel
theorem d3_5 : decode jdk_42_method_149_code 5 = .ok (.ifCond .ne 22, 3) := by decide +kernel
theorem d3_27 : decode jdk_42_method_149_code 27 = .ok (.getstatic 38, 3) := by decide +kernel
theorem d3_30 : decode jdk_42_method_149_code 30 = .ok (.ifCond .eq 28, 3) := by decide +kernel
theorem d3_33 : decode jdk_42_method_149_code 33 = .ok (.aload_n 1, 1) := by decide +kernel
theorem d3_34 : decode jdk_42_method_149_code 34 = .ok (.iload_n 2, 1) := by decide +kernel
theorem d3_35 : decode jdk_42_method_149_code 35 = .ok (.iload_n 3, 1) := by decide +kernel
theorem d3_36 : decode jdk_42_method_149_code 36 = .ok (.invokestatic 177, 3) := by decide +kernel
theorem d3_39 : decode jdk_42_method_149_code 39 = .ok (.astore 5, 2) := by decide +kernel
theorem d3_41 : decode jdk_42_method_149_code 41 = .ok (.aload_n 0, 1) := by decide +kernel
theorem d3_42 : decode jdk_42_method_149_code 42 = .ok (.aload 5, 2) := by decide +kernel
theorem d3_44 : decode jdk_42_method_149_code 44 = .ok (.iload_n 3, 1) := by decide +kernel
theorem d3_45 : decode jdk_42_method_149_code 45 = .ok (.invokestatic 47, 3) := by decide +kernel
theorem d3_48 : decode jdk_42_method_149_code 48 = .ok (.putfield 15, 3) := by decide +kernel
theorem d3_51 : decode jdk_42_method_149_code 51 = .ok (.aload_n 0, 1) := by decide +kernel
theorem d3_52 : decode jdk_42_method_149_code 52 = .ok (.aload 5, 2) := by decide +kernel
theorem d3_54 : decode jdk_42_method_149_code 54 = .ok (.putfield 9, 3) := by decide +kernel
theorem d3_57 : decode jdk_42_method_149_code 57 = .ok (.return_, 1) := by decide +kernel
theorem d2_0 : decode jdk_42_method_3_code 0 = .ok (.aload_n 0, 1) := by decide +kernel
theorem d2_1 : decode jdk_42_method_3_code 1 = .ok (.aload_n 1, 1) := by decide +kernel
theorem d2_2 : decode jdk_42_method_3_code 2 = .ok (.iconst 0, 1) := by decide +kernel
theorem d2_3 : decode jdk_42_method_3_code 3 = .ok (.aload_n 1, 1) := by decide +kernel
theorem d2_4 : decode jdk_42_method_3_code 4 = .ok (.arraylength, 1) := by decide +kernel
theorem d2_5 : decode jdk_42_method_3_code 5 = .ok (.aconst_null, 1) := by decide +kernel
theorem d2_6 : decode jdk_42_method_3_code 6 = .ok (.invokespecial 27, 3) := by decide +kernel
theorem d2_9 : decode jdk_42_method_3_code 9 = .ok (.return_, 1) := by decide +kernel
theorem d1_0 : decode method_2_code 0 = .ok (.iload_n 0, 1) := by decide +kernel
theorem d1_1 : decode method_2_code 1 = .ok (.ifCond .ne 14, 3) := by decide +kernel
theorem d1_15 : decode method_2_code 15 = .ok (.iload_n 0, 1) := by decide +kernel
theorem d1_16 : decode method_2_code 16 = .ok (.iconst 1, 1) := by decide +kernel
theorem d1_17 : decode method_2_code 17 = .ok (.if_icmp .ne 18, 3) := by decide +kernel
theorem d1_20 : decode method_2_code 20 = .ok (.new 7, 3) := by decide +kernel
theorem d1_23 : decode method_2_code 23 = .ok (.dup, 1) := by decide +kernel
theorem d1_24 : decode method_2_code 24 = .ok (.iconst 1, 1) := by decide +kernel
theorem d1_25 : decode method_2_code 25 = .ok (.newarray .char, 2) := by decide +kernel
theorem d1_27 : decode method_2_code 27 = .ok (.dup, 1) := by decide +kernel
theorem d1_28 : decode method_2_code 28 = .ok (.iconst 0, 1) := by decide +kernel
theorem d1_29 : decode method_2_code 29 = .ok (.iload_n 1, 1) := by decide +kernel
theorem d1_30 : decode method_2_code 30 = .ok (.castore, 1) := by decide +kernel
theorem d1_31 : decode method_2_code 31 = .ok (.invokespecial 9, 3) := by decide +kernel
theorem d1_34 : decode method_2_code 34 = .ok (.areturn, 1) := by decide +kernel
theorem d1_35 : decode method_2_code 35 = .ok (.iload_n 0, 1) := by decide +kernel
theorem d1_36 : decode method_2_code 36 = .ok (.iconst 2, 1) := by decide +kernel
theorem d1_37 : decode method_2_code 37 = .ok (.if_icmp .ne 22, 3) := by decide +kernel
theorem d1_40 : decode method_2_code 40 = .ok (.new 7, 3) := by decide +kernel
theorem d1_43 : decode method_2_code 43 = .ok (.dup, 1) := by decide +kernel
theorem d1_44 : decode method_2_code 44 = .ok (.iconst 2, 1) := by decide +kernel
theorem d1_45 : decode method_2_code 45 = .ok (.newarray .char, 2) := by decide +kernel
theorem d1_47 : decode method_2_code 47 = .ok (.dup, 1) := by decide +kernel
theorem d1_48 : decode method_2_code 48 = .ok (.iconst 0, 1) := by decide +kernel
theorem d1_49 : decode method_2_code 49 = .ok (.iload_n 1, 1) := by decide +kernel
theorem d1_50 : decode method_2_code 50 = .ok (.castore, 1) := by decide +kernel
theorem d1_51 : decode method_2_code 51 = .ok (.dup, 1) := by decide +kernel
theorem d1_52 : decode method_2_code 52 = .ok (.iconst 1, 1) := by decide +kernel
theorem d1_53 : decode method_2_code 53 = .ok (.iload_n 2, 1) := by decide +kernel
theorem d1_54 : decode method_2_code 54 = .ok (.castore, 1) := by decide +kernel
theorem d1_55 : decode method_2_code 55 = .ok (.invokespecial 9, 3) := by decide +kernel
theorem d1_58 : decode method_2_code 58 = .ok (.areturn, 1) := by decide +kernel
theorem d1_59 : decode method_2_code 59 = .ok (.new 7, 3) := by decide +kernel
theorem d1_62 : decode method_2_code 62 = .ok (.dup, 1) := by decide +kernel
theorem d1_63 : decode method_2_code 63 = .ok (.iconst 3, 1) := by decide +kernel
theorem d1_64 : decode method_2_code 64 = .ok (.newarray .char, 2) := by decide +kernel
theorem d1_66 : decode method_2_code 66 = .ok (.dup, 1) := by decide +kernel
theorem d1_67 : decode method_2_code 67 = .ok (.iconst 0, 1) := by decide +kernel
theorem d1_68 : decode method_2_code 68 = .ok (.iload_n 1, 1) := by decide +kernel
theorem d1_69 : decode method_2_code 69 = .ok (.castore, 1) := by decide +kernel
theorem d1_70 : decode method_2_code 70 = .ok (.dup, 1) := by decide +kernel
theorem d1_71 : decode method_2_code 71 = .ok (.iconst 1, 1) := by decide +kernel
theorem d1_72 : decode method_2_code 72 = .ok (.iload_n 2, 1) := by decide +kernel
theorem d1_73 : decode method_2_code 73 = .ok (.castore, 1) := by decide +kernel
theorem d1_74 : decode method_2_code 74 = .ok (.dup, 1) := by decide +kernel
theorem d1_75 : decode method_2_code 75 = .ok (.iconst 2, 1) := by decide +kernel
theorem d1_76 : decode method_2_code 76 = .ok (.iload_n 3, 1) := by decide +kernel
theorem d1_77 : decode method_2_code 77 = .ok (.castore, 1) := by decide +kernel
theorem d1_78 : decode method_2_code 78 = .ok (.invokespecial 9, 3) := by decide +kernel
theorem d1_81 : decode method_2_code 81 = .ok (.areturn, 1) := by decide +kernel
theorem d3_8 : decode jdk_42_method_149_code 8 = .ok (.aload_n 0, 1) := by decide +kernel
theorem d3_9 : decode jdk_42_method_149_code 9 = .ok (.ldc 7, 2) := by decide +kernel
theorem d3_11 : decode jdk_42_method_149_code 11 = .ok (.getfield 9, 3) := by decide +kernel
theorem d3_14 : decode jdk_42_method_149_code 14 = .ok (.putfield 9, 3) := by decide +kernel
theorem d3_17 : decode jdk_42_method_149_code 17 = .ok (.aload_n 0, 1) := by decide +kernel
theorem d3_18 : decode jdk_42_method_149_code 18 = .ok (.ldc 7, 2) := by decide +kernel
theorem d3_20 : decode jdk_42_method_149_code 20 = .ok (.getfield 15, 3) := by decide +kernel
theorem d3_23 : decode jdk_42_method_149_code 23 = .ok (.putfield 15, 3) := by decide +kernel
theorem d3_26 : decode jdk_42_method_149_code 26 = .ok (.return_, 1) := by decide +kernel
theorem d1_4 : decode method_2_code 4 = .ok (.new 7, 3) := by decide +kernel
theorem d1_7 : decode method_2_code 7 = .ok (.dup, 1) := by decide +kernel
theorem d1_8 : decode method_2_code 8 = .ok (.iconst 0, 1) := by decide +kernel
theorem d1_9 : decode method_2_code 9 = .ok (.newarray .char, 2) := by decide +kernel
theorem d1_11 : decode method_2_code 11 = .ok (.invokespecial 9, 3) := by decide +kernel
theorem d1_14 : decode method_2_code 14 = .ok (.areturn, 1) := by decide +kernel
theorem d13_0 : decode jdk_43_method_13_code 0 = .ok (.aload_n 0, 1) := by decide +kernel
theorem d13_1 : decode jdk_43_method_13_code 1 = .ok (.arraylength, 1) := by decide +kernel
theorem d13_2 : decode jdk_43_method_13_code 2 = .ok (.aload_n 1, 1) := by decide +kernel
theorem d13_3 : decode jdk_43_method_13_code 3 = .ok (.arraylength, 1) := by decide +kernel
theorem d13_4 : decode jdk_43_method_13_code 4 = .ok (.if_icmp .ne 30, 3) := by decide +kernel
theorem d13_7 : decode jdk_43_method_13_code 7 = .ok (.iconst 0, 1) := by decide +kernel
theorem d13_8 : decode jdk_43_method_13_code 8 = .ok (.istore_n 2, 1) := by decide +kernel
theorem d13_9 : decode jdk_43_method_13_code 9 = .ok (.iload_n 2, 1) := by decide +kernel
theorem d13_10 : decode jdk_43_method_13_code 10 = .ok (.aload_n 0, 1) := by decide +kernel
theorem d13_11 : decode jdk_43_method_13_code 11 = .ok (.arraylength, 1) := by decide +kernel
theorem d13_12 : decode jdk_43_method_13_code 12 = .ok (.if_icmp .ge 20, 3) := by decide +kernel
theorem d13_32 : decode jdk_43_method_13_code 32 = .ok (.iconst 1, 1) := by decide +kernel
theorem d13_33 : decode jdk_43_method_13_code 33 = .ok (.ireturn, 1) := by decide +kernel
theorem d13_15 : decode jdk_43_method_13_code 15 = .ok (.aload_n 0, 1) := by decide +kernel
theorem d13_16 : decode jdk_43_method_13_code 16 = .ok (.iload_n 2, 1) := by decide +kernel
theorem d13_17 : decode jdk_43_method_13_code 17 = .ok (.baload, 1) := by decide +kernel
theorem d13_18 : decode jdk_43_method_13_code 18 = .ok (.aload_n 1, 1) := by decide +kernel
theorem d13_19 : decode jdk_43_method_13_code 19 = .ok (.iload_n 2, 1) := by decide +kernel
theorem d13_20 : decode jdk_43_method_13_code 20 = .ok (.baload, 1) := by decide +kernel
theorem d13_21 : decode jdk_43_method_13_code 21 = .ok (.if_icmp .eq 5, 3) := by decide +kernel
theorem d13_26 : decode jdk_43_method_13_code 26 = .ok (.iinc 2 1, 3) := by decide +kernel
theorem d13_29 : decode jdk_43_method_13_code 29 = .ok (.goto (-20), 3) := by decide +kernel
theorem d13_24 : decode jdk_43_method_13_code 24 = .ok (.iconst 0, 1) := by decide +kernel
theorem d13_25 : decode jdk_43_method_13_code 25 = .ok (.ireturn, 1) := by decide +kernel
theorem d13_34 : decode jdk_43_method_13_code 34 = .ok (.iconst 0, 1) := by decide +kernel
theorem d13_35 : decode jdk_43_method_13_code 35 = .ok (.ireturn, 1) := by decide +kernel
theorem d12_0 : decode jdk_42_method_66_code 0 = .ok (.aload_n 0, 1) := by decide +kernel
theorem d12_1 : decode jdk_42_method_66_code 1 = .ok (.aload_n 1, 1) := by decide +kernel
theorem d12_2 : decode jdk_42_method_66_code 2 = .ok (.if_acmp .ne 5, 3) := by decide +kernel
theorem d12_7 : decode jdk_42_method_66_code 7 = .ok (.aload_n 1, 1) := by decide +kernel
theorem d12_8 : decode jdk_42_method_66_code 8 = .ok (.instanceof 10, 3) := by decide +kernel
theorem d12_11 : decode jdk_42_method_66_code 11 = .ok (.ifCond .eq 43, 3) := by decide +kernel
theorem d12_14 : decode jdk_42_method_66_code 14 = .ok (.aload_n 1, 1) := by decide +kernel
theorem d12_15 : decode jdk_42_method_66_code 15 = .ok (.checkcast 10, 3) := by decide +kernel
theorem d12_18 : decode jdk_42_method_66_code 18 = .ok (.astore_n 2, 1) := by decide +kernel
theorem d12_19 : decode jdk_42_method_66_code 19 = .ok (.getstatic 38, 3) := by decide +kernel
theorem d12_22 : decode jdk_42_method_66_code 22 = .ok (.ifCond .eq 14, 3) := by decide +kernel
theorem d12_25 : decode jdk_42_method_66_code 25 = .ok (.aload_n 0, 1) := by decide +kernel
theorem d12_26 : decode jdk_42_method_66_code 26 = .ok (.getfield 15, 3) := by decide +kernel
theorem d12_29 : decode jdk_42_method_66_code 29 = .ok (.aload_n 2, 1) := by decide +kernel
theorem d12_30 : decode jdk_42_method_66_code 30 = .ok (.getfield 15, 3) := by decide +kernel
theorem d12_33 : decode jdk_42_method_66_code 33 = .ok (.if_icmp .ne 21, 3) := by decide +kernel
theorem d12_36 : decode jdk_42_method_66_code 36 = .ok (.aload_n 0, 1) := by decide +kernel
theorem d12_37 : decode jdk_42_method_66_code 37 = .ok (.getfield 9, 3) := by decide +kernel
theorem d12_40 : decode jdk_42_method_66_code 40 = .ok (.aload_n 2, 1) := by decide +kernel
theorem d12_41 : decode jdk_42_method_66_code 41 = .ok (.getfield 9, 3) := by decide +kernel
theorem d12_44 : decode jdk_42_method_66_code 44 = .ok (.invokestatic 541, 3) := by decide +kernel
theorem d12_47 : decode jdk_42_method_66_code 47 = .ok (.ifCond .eq 7, 3) := by decide +kernel
theorem d12_54 : decode jdk_42_method_66_code 54 = .ok (.iconst 0, 1) := by decide +kernel
theorem d12_55 : decode jdk_42_method_66_code 55 = .ok (.ireturn, 1) := by decide +kernel
theorem d12_50 : decode jdk_42_method_66_code 50 = .ok (.iconst 1, 1) := by decide +kernel
theorem d12_51 : decode jdk_42_method_66_code 51 = .ok (.goto 4, 3) := by decide +kernel
theorem d12_5 : decode jdk_42_method_66_code 5 = .ok (.iconst 1, 1) := by decide +kernel
theorem d12_6 : decode jdk_42_method_66_code 6 = .ok (.ireturn, 1) := by decide +kernel
theorem d9_0 : decode jdk_31_method_11_code 0 = .ok (.aload_n 0, 1) := by decide +kernel
theorem d9_1 : decode jdk_31_method_11_code 1 = .ok (.ifnonnull 12, 3) := by decide +kernel
theorem d9_13 : decode jdk_31_method_11_code 13 = .ok (.aload_n 0, 1) := by decide +kernel
theorem d9_14 : decode jdk_31_method_11_code 14 = .ok (.areturn, 1) := by decide +kernel
theorem d8_0 : decode prog_39_method_1_code 0 = .ok (.aload_n 0, 1) := by decide +kernel
theorem d8_1 : decode prog_39_method_1_code 1 = .ok (.invokespecial 1, 3) := by decide +kernel
theorem d8_4 : decode prog_39_method_1_code 4 = .ok (.aload_n 0, 1) := by decide +kernel
theorem d8_5 : decode prog_39_method_1_code 5 = .ok (.aload_n 1, 1) := by decide +kernel
theorem d8_6 : decode prog_39_method_1_code 6 = .ok (.ldc 7, 2) := by decide +kernel
theorem d8_8 : decode prog_39_method_1_code 8 = .ok (.invokestatic 9, 3) := by decide +kernel
theorem d8_11 : decode prog_39_method_1_code 11 = .ok (.checkcast 15, 3) := by decide +kernel
theorem d8_14 : decode prog_39_method_1_code 14 = .ok (.putfield 17, 3) := by decide +kernel
theorem d8_17 : decode prog_39_method_1_code 17 = .ok (.aload_n 0, 1) := by decide +kernel
theorem d8_18 : decode prog_39_method_1_code 18 = .ok (.lload_n 2, 1) := by decide +kernel
theorem d8_19 : decode prog_39_method_1_code 19 = .ok (.putfield 22, 3) := by decide +kernel
theorem d8_22 : decode prog_39_method_1_code 22 = .ok (.return_, 1) := by decide +kernel
theorem d11_0 : decode prog_39_method_4_code 0 = .ok (.aload_n 1, 1) := by decide +kernel
theorem d11_1 : decode prog_39_method_4_code 1 = .ok (.instanceof 18, 3) := by decide +kernel
theorem d11_4 : decode prog_39_method_4_code 4 = .ok (.ifCond .eq 39, 3) := by decide +kernel
theorem d11_7 : decode prog_39_method_4_code 7 = .ok (.aload_n 0, 1) := by decide +kernel
theorem d11_8 : decode prog_39_method_4_code 8 = .ok (.getfield 17, 3) := by decide +kernel
theorem d11_11 : decode prog_39_method_4_code 11 = .ok (.aload_n 1, 1) := by decide +kernel
theorem d11_12 : decode prog_39_method_4_code 12 = .ok (.checkcast 18, 3) := by decide +kernel
theorem d11_15 : decode prog_39_method_4_code 15 = .ok (.getfield 17, 3) := by decide +kernel
theorem d11_18 : decode prog_39_method_4_code 18 = .ok (.invokevirtual 26, 3) := by decide +kernel
theorem d11_21 : decode prog_39_method_4_code 21 = .ok (.ifCond .eq 22, 3) := by decide +kernel
theorem d11_43 : decode prog_39_method_4_code 43 = .ok (.iconst 0, 1) := by decide +kernel
theorem d11_44 : decode prog_39_method_4_code 44 = .ok (.ireturn, 1) := by decide +kernel
theorem d11_24 : decode prog_39_method_4_code 24 = .ok (.aload_n 0, 1) := by decide +kernel
theorem d11_25 : decode prog_39_method_4_code 25 = .ok (.getfield 22, 3) := by decide +kernel
theorem d11_28 : decode prog_39_method_4_code 28 = .ok (.aload_n 1, 1) := by decide +kernel
theorem d11_29 : decode prog_39_method_4_code 29 = .ok (.checkcast 18, 3) := by decide +kernel
theorem d11_32 : decode prog_39_method_4_code 32 = .ok (.getfield 22, 3) := by decide +kernel
theorem d11_35 : decode prog_39_method_4_code 35 = .ok (.lcmp, 1) := by decide +kernel
theorem d11_36 : decode prog_39_method_4_code 36 = .ok (.ifCond .ne 7, 3) := by decide +kernel
theorem d11_39 : decode prog_39_method_4_code 39 = .ok (.iconst 1, 1) := by decide +kernel
theorem d11_40 : decode prog_39_method_4_code 40 = .ok (.goto 4, 3) := by decide +kernel
theorem d10_0 : decode method_3_code 0 = .ok (.iload_n 0, 1) := by decide +kernel
theorem d10_1 : decode method_3_code 1 = .ok (.iload 4, 2) := by decide +kernel
theorem d10_3 : decode method_3_code 3 = .ok (.if_icmp .eq 5, 3) := by decide +kernel
theorem d10_8 : decode method_3_code 8 = .ok (.iload_n 0, 1) := by decide +kernel
theorem d10_9 : decode method_3_code 9 = .ok (.iconst 1, 1) := by decide +kernel
theorem d10_10 : decode method_3_code 10 = .ok (.if_icmp .lt 11, 3) := by decide +kernel
theorem d10_21 : decode method_3_code 21 = .ok (.iload_n 0, 1) := by decide +kernel
theorem d10_22 : decode method_3_code 22 = .ok (.iconst 2, 1) := by decide +kernel
theorem d10_23 : decode method_3_code 23 = .ok (.if_icmp .lt 11, 3) := by decide +kernel
theorem d10_34 : decode method_3_code 34 = .ok (.iload_n 0, 1) := by decide +kernel
theorem d10_35 : decode method_3_code 35 = .ok (.iconst 3, 1) := by decide +kernel
theorem d10_36 : decode method_3_code 36 = .ok (.if_icmp .lt 11, 3) := by decide +kernel
theorem d10_47 : decode method_3_code 47 = .ok (.iconst 1, 1) := by decide +kernel
theorem d10_48 : decode method_3_code 48 = .ok (.ireturn, 1) := by decide +kernel
theorem d10_39 : decode method_3_code 39 = .ok (.iload_n 3, 1) := by decide +kernel
theorem d10_40 : decode method_3_code 40 = .ok (.iload 7, 2) := by decide +kernel
theorem d10_42 : decode method_3_code 42 = .ok (.if_icmp .eq 5, 3) := by decide +kernel
theorem d10_45 : decode method_3_code 45 = .ok (.iconst 0, 1) := by decide +kernel
theorem d10_46 : decode method_3_code 46 = .ok (.ireturn, 1) := by decide +kernel
theorem d10_26 : decode method_3_code 26 = .ok (.iload_n 2, 1) := by decide +kernel
theorem d10_27 : decode method_3_code 27 = .ok (.iload 6, 2) := by decide +kernel
theorem d10_29 : decode method_3_code 29 = .ok (.if_icmp .eq 5, 3) := by decide +kernel
theorem d10_32 : decode method_3_code 32 = .ok (.iconst 0, 1) := by decide +kernel
theorem d10_33 : decode method_3_code 33 = .ok (.ireturn, 1) := by decide +kernel
theorem d10_13 : decode method_3_code 13 = .ok (.iload_n 1, 1) := by decide +kernel
theorem d10_14 : decode method_3_code 14 = .ok (.iload 5, 2) := by decide +kernel
theorem d10_16 : decode method_3_code 16 = .ok (.if_icmp .eq 5, 3) := by decide +kernel
theorem d10_19 : decode method_3_code 19 = .ok (.iconst 0, 1) := by decide +kernel
theorem d10_20 : decode method_3_code 20 = .ok (.ireturn, 1) := by decide +kernel
theorem d10_6 : decode method_3_code 6 = .ok (.iconst 0, 1) := by decide +kernel
theorem d10_7 : decode method_3_code 7 = .ok (.ireturn, 1) := by decide +kernel
theorem pd_0 : parseMethodDescriptor "([CI[BII)I" = some ⟨[(.array .char), .int, (.array .byte), .int, .int], some .int⟩ := by decide +kernel
theorem pd_1 : parseMethodDescriptor "([CII)[B" = some ⟨[(.array .char), .int, .int], some (.array .byte)⟩ := by decide +kernel
theorem pd_2 : parseMethodDescriptor "([BI)B" = some ⟨[(.array .byte), .int], some .byte⟩ := by decide +kernel
theorem pd_3 : parseMethodDescriptor "([CIILjava/lang/Void;)V" = some ⟨[(.array .char), .int, .int, (.object "java/lang/Void")], none⟩ := by decide +kernel
theorem pd_4 : parseMethodDescriptor "([C)V" = some ⟨[(.array .char)], none⟩ := by decide +kernel
theorem pd_5 : parseMethodDescriptor "([B[B)Z" = some ⟨[(.array .byte), (.array .byte)], some .boolean⟩ := by decide +kernel
theorem pd_6 : parseMethodDescriptor "(Ljava/lang/Object;Ljava/lang/String;)Ljava/lang/Object;" = some ⟨[(.object "java/lang/Object"), (.object "java/lang/String")], some (.object "java/lang/Object")⟩ := by decide +kernel
theorem pd_7 : parseMethodDescriptor "(Ljava/lang/Object;)Z" = some ⟨[(.object "java/lang/Object")], some .boolean⟩ := by decide +kernel
theorem pd_8 : parseMethodDescriptor "(ICCC)Ljava/lang/String;" = some ⟨[.int, .char, .char, .char], some (.object "java/lang/String")⟩ := by decide +kernel
theorem pd_9 : parseMethodDescriptor "(Ljava/lang/String;J)V" = some ⟨[(.object "java/lang/String"), .long], none⟩ := by decide +kernel
theorem pd_10 : parseMethodDescriptor "(ICCCICCC)Z" = some ⟨[.int, .char, .char, .char, .int, .char, .char, .char], some .boolean⟩ := by decide +kernel
theorem pn_6 : plainName "java/lang/StringUTF16" = true := by first | (simp [plainName, overriddenIn]; done) | decide +kernel
theorem pn_5 : plainName "java/lang/StringUTF16" = true := by first | (simp [plainName, overriddenIn]; done) | decide +kernel
theorem pn_7 : plainName "java/lang/StringUTF16" = true := by first | (simp [plainName, overriddenIn]; done) | decide +kernel
theorem pn_3 : plainName "java/lang/String" = true := by first | (simp [plainName, overriddenIn]; done) | decide +kernel
theorem pn_2 : plainName "java/lang/String" = true := by first | (simp [plainName, overriddenIn]; done) | decide +kernel
theorem pn_1 : plainName "com/example/soft_throttle/softthrottle/usage/RequestCountEqualsPinLaw" = true := by first | (simp [plainName, overriddenIn]; done) | decide +kernel
theorem pn_13 : plainName "java/lang/StringLatin1" = true := by first | (simp [plainName, overriddenIn]; done) | decide +kernel
theorem pn_12 : plainName "java/lang/String" = true := by first | (simp [plainName, overriddenIn]; done) | decide +kernel
theorem pn_9 : plainName "java/util/Objects" = true := by first | (simp [plainName, overriddenIn]; done) | decide +kernel
theorem pn_8 : plainName "com/example/soft_throttle/softthrottle/usage/RequestCount" = true := by first | (simp [plainName, overriddenIn]; done) | decide +kernel
theorem pn_11 : plainName "com/example/soft_throttle/softthrottle/usage/RequestCount" = true := by first | (simp [plainName, overriddenIn]; done) | decide +kernel
theorem pn_10 : plainName "com/example/soft_throttle/softthrottle/usage/RequestCountEqualsPinLaw" = true := by first | (simp [plainName, overriddenIn]; done) | decide +kernel
theorem pn_0 : plainName "com/example/soft_throttle/softthrottle/usage/RequestCountEqualsPinLaw" = true := by first | (simp [plainName, overriddenIn]; done) | decide +kernel
theorem ef_cin1 (m : MethodId) (x0 : Nat) (x2 : Nat) : entryFrame m #[(.ref x0), (.int (0 : Int32)), (.ref x2), (.int (0 : Int32)), (.int (1 : Int32))] 7 = mkF m 0 #[.val (.ref x0), .val (.int (0 : Int32)), .val (.ref x2), .val (.int (0 : Int32)), .val (.int (1 : Int32)), .unset, .unset] [] := by first | (simp [entryFrame, mkF, argsToLocals, Value.category]; done) | rfl
theorem ef_cou1 (m : MethodId) (x0 : Nat) : entryFrame m #[(.ref x0), (.int (0 : Int32)), (.int (1 : Int32))] 6 = mkF m 0 #[.val (.ref x0), .val (.int (0 : Int32)), .val (.int (1 : Int32)), .unset, .unset, .unset] [] := by first | (simp [entryFrame, mkF, argsToLocals, Value.category]; done) | rfl
theorem ef_cod1 (m : MethodId) (x0 : Nat) : entryFrame m #[(.ref x0), (.int (1 : Int32))] 2 = mkF m 0 #[.val (.ref x0), .val (.int (1 : Int32))] [] := by first | (simp [entryFrame, mkF, argsToLocals, Value.category]; done) | rfl
theorem ef_sin1 (m : MethodId) (x0 : Nat) (x1 : Nat) : entryFrame m #[(.ref x0), (.ref x1), (.int (0 : Int32)), (.int (1 : Int32)), .null] 6 = mkF m 0 #[.val (.ref x0), .val (.ref x1), .val (.int (0 : Int32)), .val (.int (1 : Int32)), .val .null, .unset] [] := by first | (simp [entryFrame, mkF, argsToLocals, Value.category]; done) | rfl
theorem ef_sic1 (m : MethodId) (x0 : Nat) (x1 : Nat) : entryFrame m #[(.ref x0), (.ref x1)] 2 = mkF m 0 #[.val (.ref x0), .val (.ref x1)] [] := by first | (simp [entryFrame, mkF, argsToLocals, Value.category]; done) | rfl
theorem ef_mk1 (m : MethodId) (x1 : Int32) (x2 : Int32) (x3 : Int32) : entryFrame m #[(.int (1 : Int32)), (.int x1), (.int x2), (.int x3)] 4 = mkF m 0 #[.val (.int (1 : Int32)), .val (.int x1), .val (.int x2), .val (.int x3)] [] := by first | (simp [entryFrame, mkF, argsToLocals, Value.category]; done) | rfl
theorem ef_cin2 (m : MethodId) (x0 : Nat) (x2 : Nat) : entryFrame m #[(.ref x0), (.int (0 : Int32)), (.ref x2), (.int (0 : Int32)), (.int (2 : Int32))] 7 = mkF m 0 #[.val (.ref x0), .val (.int (0 : Int32)), .val (.ref x2), .val (.int (0 : Int32)), .val (.int (2 : Int32)), .unset, .unset] [] := by first | (simp [entryFrame, mkF, argsToLocals, Value.category]; done) | rfl
theorem ef_cou2 (m : MethodId) (x0 : Nat) : entryFrame m #[(.ref x0), (.int (0 : Int32)), (.int (2 : Int32))] 6 = mkF m 0 #[.val (.ref x0), .val (.int (0 : Int32)), .val (.int (2 : Int32)), .unset, .unset, .unset] [] := by first | (simp [entryFrame, mkF, argsToLocals, Value.category]; done) | rfl
theorem ef_cod2 (m : MethodId) (x0 : Nat) : entryFrame m #[(.ref x0), (.int (2 : Int32))] 2 = mkF m 0 #[.val (.ref x0), .val (.int (2 : Int32))] [] := by first | (simp [entryFrame, mkF, argsToLocals, Value.category]; done) | rfl
theorem ef_sin2 (m : MethodId) (x0 : Nat) (x1 : Nat) : entryFrame m #[(.ref x0), (.ref x1), (.int (0 : Int32)), (.int (2 : Int32)), .null] 6 = mkF m 0 #[.val (.ref x0), .val (.ref x1), .val (.int (0 : Int32)), .val (.int (2 : Int32)), .val .null, .unset] [] := by first | (simp [entryFrame, mkF, argsToLocals, Value.category]; done) | rfl
theorem ef_sic2 (m : MethodId) (x0 : Nat) (x1 : Nat) : entryFrame m #[(.ref x0), (.ref x1)] 2 = mkF m 0 #[.val (.ref x0), .val (.ref x1)] [] := by first | (simp [entryFrame, mkF, argsToLocals, Value.category]; done) | rfl
theorem ef_mk2 (m : MethodId) (x1 : Int32) (x2 : Int32) (x3 : Int32) : entryFrame m #[(.int (2 : Int32)), (.int x1), (.int x2), (.int x3)] 4 = mkF m 0 #[.val (.int (2 : Int32)), .val (.int x1), .val (.int x2), .val (.int x3)] [] := by first | (simp [entryFrame, mkF, argsToLocals, Value.category]; done) | rfl
theorem ef_cin3 (m : MethodId) (x0 : Nat) (x2 : Nat) : entryFrame m #[(.ref x0), (.int (0 : Int32)), (.ref x2), (.int (0 : Int32)), (.int (3 : Int32))] 7 = mkF m 0 #[.val (.ref x0), .val (.int (0 : Int32)), .val (.ref x2), .val (.int (0 : Int32)), .val (.int (3 : Int32)), .unset, .unset] [] := by first | (simp [entryFrame, mkF, argsToLocals, Value.category]; done) | rfl
theorem ef_cou3 (m : MethodId) (x0 : Nat) : entryFrame m #[(.ref x0), (.int (0 : Int32)), (.int (3 : Int32))] 6 = mkF m 0 #[.val (.ref x0), .val (.int (0 : Int32)), .val (.int (3 : Int32)), .unset, .unset, .unset] [] := by first | (simp [entryFrame, mkF, argsToLocals, Value.category]; done) | rfl
theorem ef_cod3 (m : MethodId) (x0 : Nat) : entryFrame m #[(.ref x0), (.int (3 : Int32))] 2 = mkF m 0 #[.val (.ref x0), .val (.int (3 : Int32))] [] := by first | (simp [entryFrame, mkF, argsToLocals, Value.category]; done) | rfl
theorem ef_sin3 (m : MethodId) (x0 : Nat) (x1 : Nat) : entryFrame m #[(.ref x0), (.ref x1), (.int (0 : Int32)), (.int (3 : Int32)), .null] 6 = mkF m 0 #[.val (.ref x0), .val (.ref x1), .val (.int (0 : Int32)), .val (.int (3 : Int32)), .val .null, .unset] [] := by first | (simp [entryFrame, mkF, argsToLocals, Value.category]; done) | rfl
theorem ef_sic3 (m : MethodId) (x0 : Nat) (x1 : Nat) : entryFrame m #[(.ref x0), (.ref x1)] 2 = mkF m 0 #[.val (.ref x0), .val (.ref x1)] [] := by first | (simp [entryFrame, mkF, argsToLocals, Value.category]; done) | rfl
theorem ef_mk3 (m : MethodId) (x1 : Int32) (x2 : Int32) (x3 : Int32) : entryFrame m #[(.int (3 : Int32)), (.int x1), (.int x2), (.int x3)] 4 = mkF m 0 #[.val (.int (3 : Int32)), .val (.int x1), .val (.int x2), .val (.int x3)] [] := by first | (simp [entryFrame, mkF, argsToLocals, Value.category]; done) | rfl
theorem ef_sin0 (m : MethodId) (x0 : Nat) (x1 : Nat) : entryFrame m #[(.ref x0), (.ref x1), (.int (0 : Int32)), (.int (0 : Int32)), .null] 6 = mkF m 0 #[.val (.ref x0), .val (.ref x1), .val (.int (0 : Int32)), .val (.int (0 : Int32)), .val .null, .unset] [] := by first | (simp [entryFrame, mkF, argsToLocals, Value.category]; done) | rfl
theorem ef_sic0 (m : MethodId) (x0 : Nat) (x1 : Nat) : entryFrame m #[(.ref x0), (.ref x1)] 2 = mkF m 0 #[.val (.ref x0), .val (.ref x1)] [] := by first | (simp [entryFrame, mkF, argsToLocals, Value.category]; done) | rfl
theorem ef_mk0 (m : MethodId) (x1 : Int32) (x2 : Int32) (x3 : Int32) : entryFrame m #[(.int (0 : Int32)), (.int x1), (.int x2), (.int x3)] 4 = mkF m 0 #[.val (.int (0 : Int32)), .val (.int x1), .val (.int x2), .val (.int x3)] [] := by first | (simp [entryFrame, mkF, argsToLocals, Value.category]; done) | rfl
theorem ef_le0 (m : MethodId) (x0 : Nat) (x1 : Nat) : entryFrame m #[(.ref x0), (.ref x1)] 3 = mkF m 0 #[.val (.ref x0), .val (.ref x1), .unset] [] := by first | (simp [entryFrame, mkF, argsToLocals, Value.category]; done) | rfl
theorem ef_le1 (m : MethodId) (x0 : Nat) (x1 : Nat) : entryFrame m #[(.ref x0), (.ref x1)] 3 = mkF m 0 #[.val (.ref x0), .val (.ref x1), .unset] [] := by first | (simp [entryFrame, mkF, argsToLocals, Value.category]; done) | rfl
theorem ef_le2 (m : MethodId) (x0 : Nat) (x1 : Nat) : entryFrame m #[(.ref x0), (.ref x1)] 3 = mkF m 0 #[.val (.ref x0), .val (.ref x1), .unset] [] := by first | (simp [entryFrame, mkF, argsToLocals, Value.category]; done) | rfl
theorem ef_le3 (m : MethodId) (x0 : Nat) (x1 : Nat) : entryFrame m #[(.ref x0), (.ref x1)] 3 = mkF m 0 #[.val (.ref x0), .val (.ref x1), .unset] [] := by first | (simp [entryFrame, mkF, argsToLocals, Value.category]; done) | rfl
theorem ef_len (m : MethodId) (x0 : Nat) (x1 : Nat) : entryFrame m #[(.ref x0), (.ref x1)] 3 = mkF m 0 #[.val (.ref x0), .val (.ref x1), .unset] [] := by first | (simp [entryFrame, mkF, argsToLocals, Value.category]; done) | rfl
theorem ef_seN (m : MethodId) (x0 : Nat) (x1 : Nat) : entryFrame m #[(.ref x0), (.ref x1)] 3 = mkF m 0 #[.val (.ref x0), .val (.ref x1), .unset] [] := by first | (simp [entryFrame, mkF, argsToLocals, Value.category]; done) | rfl
theorem ef_seS (m : MethodId) (x0 : Nat) (x1 : Nat) : entryFrame m #[(.ref x0), (.ref x1)] 3 = mkF m 0 #[.val (.ref x0), .val (.ref x1), .unset] [] := by first | (simp [entryFrame, mkF, argsToLocals, Value.category]; done) | rfl
theorem ef_rm9 (m : MethodId) (x0 : Nat) (x1 : Nat) : entryFrame m #[(.ref x0), (.ref x1)] 2 = mkF m 0 #[.val (.ref x0), .val (.ref x1)] [] := by first | (simp [entryFrame, mkF, argsToLocals, Value.category]; done) | rfl
theorem ef_rm8 (m : MethodId) (x0 : Nat) (x1 : Nat) (x2 : Int64) : entryFrame m #[(.ref x0), (.ref x1), (.long x2)] 4 = mkF m 0 #[.val (.ref x0), .val (.ref x1), .val (.long x2), .second] [] := by first | (simp [entryFrame, mkF, argsToLocals, Value.category]; done) | rfl
theorem ef_reN (m : MethodId) (x0 : Nat) (x1 : Nat) : entryFrame m #[(.ref x0), (.ref x1)] 2 = mkF m 0 #[.val (.ref x0), .val (.ref x1)] [] := by first | (simp [entryFrame, mkF, argsToLocals, Value.category]; done) | rfl
theorem ef_reS (m : MethodId) (x0 : Nat) (x1 : Nat) : entryFrame m #[(.ref x0), (.ref x1)] 2 = mkF m 0 #[.val (.ref x0), .val (.ref x1)] [] := by first | (simp [entryFrame, mkF, argsToLocals, Value.category]; done) | rfl
theorem ef_reZ (m : MethodId) (x0 : Nat) : entryFrame m #[(.ref x0), .null] 2 = mkF m 0 #[.val (.ref x0), .val .null] [] := by first | (simp [entryFrame, mkF, argsToLocals, Value.category]; done) | rfl
theorem ef_reT (m : MethodId) (x0 : Nat) (x1 : Nat) : entryFrame m #[(.ref x0), (.ref x1)] 2 = mkF m 0 #[.val (.ref x0), .val (.ref x1)] [] := by first | (simp [entryFrame, mkF, argsToLocals, Value.category]; done) | rfl
theorem ef_rm10 (m : MethodId) (x0 : Int32) (x1 : Int32) (x2 : Int32) (x3 : Int32) (x4 : Int32) (x5 : Int32) (x6 : Int32) (x7 : Int32) : entryFrame m #[(.int x0), (.int x1), (.int x2), (.int x3), (.int x4), (.int x5), (.int x6), (.int x7)] 8 = mkF m 0 #[.val (.int x0), .val (.int x1), .val (.int x2), .val (.int x3), .val (.int x4), .val (.int x5), .val (.int x6), .val (.int x7)] [] := by first | (simp [entryFrame, mkF, argsToLocals, Value.category]; done) | rfl
theorem ef_rm0 (m : MethodId) (x0 : Int32) (x1 : Int32) (x2 : Int64) (x3 : Int64) (x4 : Int32) : entryFrame m #[(.int x0), (.int x1), (.long x2), (.long x3), (.int x4)] maxLocals = mkF m 0 #[.val (.int x0), .val (.int x1), .val (.long x2), .second, .val (.long x3), .second, .val (.int x4), .unset, .unset, .unset, .unset, .unset, .unset, .unset, .unset, .unset, .unset, .unset, .unset, .unset, .unset, .unset, .unset, .unset] [] := by first | (simp [entryFrame, mkF, argsToLocals, Value.category, maxLocals]; done) | rfl
section OwnHeld
variable {p : Program} {l : Launch} {e : Env} {R : Room} {s : State} {m : MethodId} {args : Array Value} {below : List Frame} {meth : Method} {c : Code} {T : State} {locs : List Loc} {cells slots : Nat} {Q : Option Value → Heap → List Loc → Prop} {kc ks : Nat} {S : State} {h h' : Heap} {vm vm₀ vm₁ : Vm} {n : Nat} {Z : State} {a0 : Array Value} {EL : List (String × Nat)}
theorem own_rebase (X : Stand p l e R ((s.setVm vm₀).setVm vm₁) m args below meth c T locs cells slots) : Stand p l e R (s.setVm vm₁) m args below meth c T locs cells slots := X
theorem own_base (X : Stand p l e R s m args below meth c T locs cells slots) : Stand p l e R (s.setVm s.vm) m args below meth c T locs cells slots := X
theorem Comes.wfin (X : Stand p l e R (s.setVm vm₁) m args below meth c T locs cells slots) {v : Option Value} (hv : meth.sig.returnType = none → v = none) (hlk : meth.locks = false)
    (hs : ∀ fs, (∀ (f : JFrame) (acts : List Action), f.method = m → f.locked = none → f.entered = [] → (doReturn e (T.setTop f) acts v).1 = T.setFrames fs) → Steps p.tables e below S (T.setFrames fs))
    (hS : s.Since vm₁ n) (hn : n ≤ h.size) (eT : T.heap = h) (hq : Q v h locs) (hc : cells ≤ kc) (hl : slots ≤ ks) : Comes p e below (EndsAtW below s Q kc ks) S := by
  obtain ⟨fs, hr, hrun, hended, h1, h2, h3, h4⟩ := X.leaveW hS (by rw [eT]; exact hn) (v := v) hv hlk
  exact ⟨_, hs fs hr, _, hrun, hended, _, _, rfl, (show Q v T.heap locs from by rw [eT]; exact hq), h1, h2, h3, h4.mono hc hl⟩
theorem Comes.wret0 (X : Stand p l e R (s.setVm vm₁) m args below meth c T locs cells slots) (hx : p.tables.exec = Jvm.exec) {pc : Nat} {Ls : Array Slot} (hret : meth.sig.returnType = none) (hlk : meth.locks = false) (hd : decode c.code pc = .ok (.return_, 1))
    (hS : s.Since vm₁ n) (hn : n ≤ h.size) (eT : T.heap = h) (hq : Q none h locs) (hc : cells ≤ kc) (hl : slots ≤ ks) : Comes p e below (EndsAtW below s Q kc ks) (T.setTop (mkF m pc Ls [])) :=
  Comes.wfin X (fun _ => rfl) hlk (fun _ hr => X.returnOut hx hret hd hr) hS hn eT hq hc hl
/-- how a body ends that Q allows, the invariant of the booked constants beside it -/
def EndsAtH (Z : State) (EL : List (String × Nat)) (below : List Frame) (s : State) (Q : Option Value → Heap → List Loc → Prop) (kc ks : Nat) (s₂ : State) : Prop := ∃ o, s₂.status = .running ∧ Ended s₂ below o ∧ ∃ v L, o = .returned v ∧ Q v s₂.heap L ∧ CHr Z EL s.vm s.heap s₂.vm s₂.heap ∧ ReturnedEndW s o s₂ L kc ks
theorem Comes.outH (h : Comes p e below (EndsAtH Z EL below s Q kc ks) S) : ∃ s₂ o, Steps p.tables e below S s₂ ∧ s₂.status = .running ∧ Ended s₂ below o ∧ ∃ v L, o = .returned v ∧ Q v s₂.heap L ∧ CHr Z EL s.vm s.heap s₂.vm s₂.heap ∧ ReturnedEndW s o s₂ L kc ks := by
  obtain ⟨s₂, h1, o, r⟩ := h; exact ⟨s₂, o, h1, r⟩
theorem Comes.hfin (X : Stand p l e R (s.setVm vm₁) m args below meth c T locs cells slots) {v : Option Value} (hv : meth.sig.returnType = none → v = none) (hlk : meth.locks = false)
    (hs : ∀ fs, (∀ (f : JFrame) (acts : List Action), f.method = m → f.locked = none → f.entered = [] → (doReturn e (T.setTop f) acts v).1 = T.setFrames fs) → Steps p.tables e below S (T.setFrames fs))
    (hS : s.Since vm₁ n) (hn : n ≤ h.size) (eT : T.heap = h) (hq : Q v h locs) (hc : cells ≤ kc) (hl : slots ≤ ks) (hC : CHr Z EL s.vm s.heap vm₁ h) (hZ : Z.Warmed39 vm₁) (w : EW Z a0 EL) : Comes p e below (EndsAtH Z EL below s Q kc ks) S := by
  obtain ⟨fs, hr, hrun, hended, h1, h2, h3, h4⟩ := X.leaveW hS (by rw [eT]; exact hn) (v := v) hv hlk
  have hD : CHr Z EL s.vm s.heap T.vm T.heap := by rw [eT]; exact hC.trans (CHv.at X hZ w hC.1)
  exact ⟨_, hs fs hr, _, hrun, hended, _, _, rfl, (show Q v T.heap locs from by rw [eT]; exact hq), hD, h1, h2, h3, h4.mono hc hl⟩
theorem Comes.hret0 (X : Stand p l e R (s.setVm vm₁) m args below meth c T locs cells slots) (hx : p.tables.exec = Jvm.exec) {pc : Nat} {Ls : Array Slot} (hret : meth.sig.returnType = none) (hlk : meth.locks = false) (hd : decode c.code pc = .ok (.return_, 1))
    (hS : s.Since vm₁ n) (hn : n ≤ h.size) (eT : T.heap = h) (hq : Q none h locs) (hc : cells ≤ kc) (hl : slots ≤ ks) (hC : CHr Z EL s.vm s.heap vm₁ h) (hZ : Z.Warmed39 vm₁) (w : EW Z a0 EL) : Comes p e below (EndsAtH Z EL below s Q kc ks) (T.setTop (mkF m pc Ls [])) :=
  Comes.hfin X (fun _ => rfl) hlk (fun _ hr => X.returnOut hx hret hd hr) hS hn eT hq hc hl hC hZ w
theorem Comes.hretV (X : Stand p l e R (s.setVm vm₁) m args below meth c T locs cells slots) (hx : p.tables.exec = Jvm.exec) {pc : Nat} {Ls : Array Slot} {w : Value} {t : FieldType} {i : Instr} {rest : List Value} (hret : meth.sig.returnType = some t) (hn' : narrow t w = w)
    (hi : (i = .ireturn ∧ (t = .int ∨ t = .boolean ∨ t = .byte ∨ t = .char ∨ t = .short) ∧ ∃ z, w = .int z) ∨ (i = .lreturn ∧ t = .long ∧ ∃ z, w = .long z) ∨ (i = .dreturn ∧ t = .double ∧ ∃ z, w = .double z) ∨ (i = .freturn ∧ t = .float ∧ ∃ z, w = .float z) ∨ (i = .areturn ∧ t.isReference = true ∧ w.isRef = true))
    (hlk : meth.locks = false) (hd : decode c.code pc = .ok (i, 1))
    (hS : s.Since vm₁ n) (hn : n ≤ h.size) (eT : T.heap = h) (hq : Q (some w) h locs) (hc : cells ≤ kc) (hl : slots ≤ ks) (hC : CHr Z EL s.vm s.heap vm₁ h) (hZ : Z.Warmed39 vm₁) (ew : EW Z a0 EL) : Comes p e below (EndsAtH Z EL below s Q kc ks) (T.setTop (mkF m pc Ls (w :: rest))) :=
  Comes.hfin X (fun q => by rw [hret] at q; cases q) hlk (fun _ hr => retOut X hx hret hn' hi hd hr) hS hn eT hq hc hl hC hZ ew
/-- a String whose 'value' is null is no booked constant, nor a booked constant's array -/
theorem own_safe {x : Addr} (hal : Z.vm.Alike vm) (E : Exa Z h x "java/lang/String") (F : Fld Z h x "java/lang/String" "value" "[B" .null) : Safe Z EL vm h x := fun B => by
  obtain ⟨cell, k, e1, e2, e3, -, -⟩ := E
  obtain ⟨c2, cf, k2, i2, f2, g1, g2, -, -, -, -, g7⟩ := F
  cases e1.symm.trans g1
  obtain ⟨p, -, u, a, -, q, -, F', rfl | rfl⟩ := B
  · cases (show h[q.sa]? = some q.sC from F'.ha).symm.trans e1
    obtain ⟨cS, ⟨⟨-, -, -, ⟨c1, k1, i1, f1, -⟩, -, -, -, v1, -⟩, -⟩, -⟩ := F'
    obtain ⟨k3, e4, -⟩ := State.fieldFound?_setVm (s := Z) hal g2
    have e5 := (show (Wst Z vm h).fieldFound? "java/lang/String" "value" "[B" = _ from e4).symm.trans f1
    simp only [Option.some.injEq, Prod.mk.injEq] at e5
    rw [← e5.2.2.2, g7] at v1
    cases v1
  · cases (show h[q.sd]? = some q.SA from F'.hd).symm.trans e1
    obtain ⟨cS, -, -, f, -⟩ := F'
    have f' : Z.vm.findClass "[B" = some q.SA.cls := by rw [← hal.findClass]; exact f
    exact ids_ne f' e2 (by decide) rfl
theorem own_safeV {x : Nat} {k : ClassId} {ty : FieldType} {z : Int32} {vs : List Value} {d : Value} (hal : Z.vm.Alike vm) (A : Arv Z h x k ty z vs d) (ht : ty ≠ .byte) : Safe Z EL vm h x := by
  obtain ⟨cl, A1, -⟩ := A; exact Safe.arr hal A1 ht
/-- a contract that interns nothing keeps the invariant -/
theorem own_lift {y : MethodName} {Sp : Spec} {A : Array Value} {K : Program → Env → List Frame → State → Array Value → Prop}
    (hM : MetFree l y Sp (fun a U => a = A ∧ Z.Warmed39 U.vm ∧ U.heap = h) K (fun _ U o U' => ∃ v L, o = .returned v ∧ Q v U'.heap L ∧ FrameEnd U o U' L kc ks)) (hQ : ∀ v h' L, Q v h' L → Keep h h' []) (w : EW Z a0 EL) :
    MetFree l y Sp (fun a U => a = A ∧ Z.Warmed39 U.vm ∧ U.heap = h ∧ CHv Z EL U.vm h) K (fun _ U o U' => ∃ v L, o = .returned v ∧ Q v U'.heap L ∧ CHr Z EL U.vm U.heap U'.vm U'.heap ∧ ReturnedEndW U o U' L kc ks) :=
  hM.mono (fun _ _ q => ⟨q.1, q.2.1, q.2.2.1⟩) (fun _ _ _ _ _ k => k) (fun _ t o t' ⟨_, hZ, hh, hC⟩ ⟨v, L, e1, q, fe⟩ => by
    subst hh
    have C1 := CHr.keep (hQ _ _ _ q) all0 hC
    have C2 := CHv.later (h' := t'.heap) hZ (hW := (show (Wst Z t.vm t'.heap).Warmed39 t'.vm from fe.2.1.wide)) w ⟨Nat.le_refl _, fun _ _ q => q⟩ (Or.inl fe.2.1.interned_eq) C1.1
    exact ⟨v, L, e1, q, C1.trans ⟨C2.1, Nat.le_refl _, C2.2⟩, fe.1, fe.2.1.wide, fe.2.1.no_new_pair _, fe.2.2⟩)
/-- String is no subclass of K -/
theorem own_nosub {K : String} {n : Nat} (w1 : (Jvm.Cond.superclass "java/lang/String" "java/lang/Object").before a0 Z = true) (w2 : (Jvm.Cond.noSuperclass "java/lang/Object").before a0 Z = true) (wk : (Jvm.Cond.instantiable K n).before a0 Z = true) (hn1 : "java/lang/String" ≠ K) (hn2 : "java/lang/Object" ≠ K) :
    ∃ c t, Z.vm.findClass "java/lang/String" = some c ∧ Z.vm.findClass K = some t ∧ Z.vm.assignable c t = false := by
  obtain ⟨t, k', g0, g2, g5, g7, -⟩ := Cond.instantiable_spec wk
  simp only [Bool.or_eq_false_iff] at g7
  obtain ⟨c, h0⟩ := found_sup w1
  obtain ⟨p, k, kp, h1, h2, h3, h4, h5, -, -⟩ := Cond.superclass_spec h0 w1
  obtain ⟨o, ko, o1, o2, o3, -⟩ := Cond.noSuperclass_spec w2
  cases o1.symm.trans h1
  have ne1 := ids_ne h0 g0 hn1
  have ne2 := ids_ne h1 g0 hn2
  have n3 : ∀ fuel, Z.vm.isSubclassAux fuel c t = false := fun fuel => by
    cases fuel with
    | zero => rfl
    | succ f =>
      cases f with
      | zero => simp [Vm.isSubclassAux, ne1, h2, h4]
      | succ f => simp [Vm.isSubclassAux, ne1, ne2, h2, h4, o2, o3]
  refine ⟨c, t, h0, g0, ?_⟩
  show Z.vm.assignableAux (255 + 1) c t = false
  simp [Vm.assignableAux, ne1, h2, g2, h5, g5, g7.1, Vm.isSubclass, n3]
end OwnHeld
theorem own_EW {Z : State} {a0 : Array Value} (hw : ∀ d ∈ tables_1, d.before a0 Z = true) : EW Z a0 consts_1 := EW.cons (text := "request") (hw _ (List.mem_of_getElem? (i := 44) rfl)) (by decide) (EW.cons (text := "") (hw _ (List.mem_of_getElem? (i := 18) rfl)) (by decide) EW.nil)
theorem own_le255 {x : Int32} (h : 0 ≤ x.toInt ∧ x.toInt ≤ 255) : ¬ ((255 : Int32) < x) := by rw [Int32.lt_iff_toInt_lt]; have : (255 : Int32).toInt = 255 := by decide
                                                                                              omega
theorem own_char {x : Int32} (h : 0 ≤ x.toInt ∧ x.toInt ≤ 255) : nar .char x = x := by
  have e := c_i2c x
  have : nar .char x = x.toUInt32.toUInt16.toUInt32.toInt32 := rfl
  rw [this, ← Int32.toInt_inj]; omega
theorem own_byte {x y : Int32} (h : 0 ≤ x.toInt ∧ x.toInt ≤ 255) (g : 0 ≤ y.toInt ∧ y.toInt ≤ 255) : nar .byte ((nar .char x).toInt8.toInt32) = nar .byte ((nar .char y).toInt8.toInt32) ↔ x = y := by
  rw [own_char h, own_char g]
  have n1 : ∀ z : Int32, nar .byte z = z.toInt8.toInt32 := fun _ => rfl
  rw [n1, n1]
  have e3 := c_i2b x; have e4 := c_i2b x.toInt8.toInt32; have e5 := c_i2b y; have e6 := c_i2b y.toInt8.toInt32
  rw [← Int32.toInt_inj, ← Int32.toInt_inj]; omega
theorem own_03 {n : Int32} (h : 0 ≤ n.toInt ∧ n.toInt ≤ 3) : n = 0 ∨ n = 1 ∨ n = 2 ∨ n = 3 := by
  rw [← Int32.toInt_inj, ← Int32.toInt_inj, ← Int32.toInt_inj, ← Int32.toInt_inj]
  have e0 : (0 : Int32).toInt = 0 := by decide
  have e1 : (1 : Int32).toInt = 1 := by decide
  have e2 : (2 : Int32).toInt = 2 := by decide
  have e3 : (3 : Int32).toInt = 3 := by decide
  omega
/-- the first n of three bytes -/
def own_bs (n x y z : Int32) : List Value := if n = 0 then [] else if n = 1 then [.int x] else if n = 2 then [.int x, .int y] else [.int x, .int y, .int z]
theorem own_bs0 (x y z : Int32) : own_bs 0 x y z = [] := rfl
theorem own_bs1 (x y z : Int32) : own_bs 1 x y z = [.int x] := rfl
theorem own_bs2 (x y z : Int32) : own_bs 2 x y z = [.int x, .int y] := rfl
theorem own_bs3 (x y z : Int32) : own_bs 3 x y z = [.int x, .int y, .int z] := rfl
/-- r says whether two texts of at most three signs are one -/
def own_eqs (n a b c m a' b' c' r : Int32) : Prop := (r = 1 ∧ n = m ∧ (n < 1 ∨ a = a') ∧ (n < 2 ∨ b = b') ∧ (n < 3 ∨ c = c')) ∨ (r = 0 ∧ (¬ n = m ∨ (¬ n < 1 ∧ ¬ a = a') ∨ (¬ n < 2 ∧ ¬ b = b') ∨ (¬ n < 3 ∧ ¬ c = c')))
theorem own_eqs01 {n a b c m a' b' c' r : Int32} (h : own_eqs n a b c m a' b' c' r) : r = 0 ∨ r = 1 := by rcases h with h | h; exact Or.inr h.1; exact Or.inl h.1
theorem own_eqs_symm {n a b c m a' b' c' r : Int32} (h : own_eqs n a b c m a' b' c' r) : own_eqs m a' b' c' n a b c r := by
  rcases h with ⟨h1, h2, h3, h4, h5⟩ | ⟨h1, h2⟩
  · subst h2; exact Or.inl ⟨h1, rfl, h3.imp id Eq.symm, h4.imp id Eq.symm, h5.imp id Eq.symm⟩
  · refine Or.inr ⟨h1, ?_⟩
    by_cases q : n = m
    · subst q
      rcases h2 with h2 | h2 | h2 | h2
      · exact absurd rfl h2
      · exact Or.inr (Or.inl ⟨h2.1, fun z => h2.2 z.symm⟩)
      · exact Or.inr (Or.inr (Or.inl ⟨h2.1, fun z => h2.2 z.symm⟩))
      · exact Or.inr (Or.inr (Or.inr ⟨h2.1, fun z => h2.2 z.symm⟩))
    · exact Or.inl fun z => q z.symm
theorem own_eqs_one {n a b c m a' b' c' r t : Int32} (h : own_eqs n a b c m a' b' c' r) (g : own_eqs n a b c m a' b' c' t) : r = t := by
  have key : ∀ {r t : Int32}, (r = 1 ∧ n = m ∧ (n < 1 ∨ a = a') ∧ (n < 2 ∨ b = b') ∧ (n < 3 ∨ c = c')) → (t = 0 ∧ (¬ n = m ∨ (¬ n < 1 ∧ ¬ a = a') ∨ (¬ n < 2 ∧ ¬ b = b') ∨ (¬ n < 3 ∧ ¬ c = c'))) → False := fun {r t} ⟨_, h2, h3, h4, h5⟩ ⟨_, g2⟩ => by
    rcases g2 with g2 | g2 | g2 | g2
    · exact g2 h2
    · exact h3.elim g2.1 g2.2
    · exact h4.elim g2.1 g2.2
    · exact h5.elim g2.1 g2.2
  rcases h with h | h <;> rcases g with g | g
  · exact h.1.trans g.1.symm
  · exact (key h g).elim
  · exact (key g h).elim
  · exact h.1.trans g.1.symm
theorem own_eqs_b {n a b c m a' b' c' r : Int32} (ha : 0 ≤ a.toInt ∧ a.toInt ≤ 255) (hb : 0 ≤ b.toInt ∧ b.toInt ≤ 255) (hc : 0 ≤ c.toInt ∧ c.toInt ≤ 255) (ha' : 0 ≤ a'.toInt ∧ a'.toInt ≤ 255) (hb' : 0 ≤ b'.toInt ∧ b'.toInt ≤ 255) (hc' : 0 ≤ c'.toInt ∧ c'.toInt ≤ 255)
    (h : own_eqs n (nar .byte ((nar .char a).toInt8.toInt32)) (nar .byte ((nar .char b).toInt8.toInt32)) (nar .byte ((nar .char c).toInt8.toInt32)) m (nar .byte ((nar .char a').toInt8.toInt32)) (nar .byte ((nar .char b').toInt8.toInt32)) (nar .byte ((nar .char c').toInt8.toInt32)) r) : own_eqs n a b c m a' b' c' r := by
  unfold own_eqs at h ⊢
  rwa [own_byte ha ha', own_byte hb hb', own_byte hc hc'] at h
/-- the answer of RequestCount.equals -/
def own_ans (n a b c m a' b' c' r : Int32) (x y : Int64) : Prop := ∃ q : Int32, own_eqs n a b c m a' b' c' q ∧ ((r = 1 ∧ q = 1 ∧ x = y) ∨ (r = 0 ∧ (q = 0 ∨ ¬ x = y)))
theorem own_fin {n a b c m a' b' c' r t : Int32} {x y : Int64} (ha : 0 ≤ a.toInt ∧ a.toInt ≤ 255) (hb : 0 ≤ b.toInt ∧ b.toInt ≤ 255) (hc : 0 ≤ c.toInt ∧ c.toInt ≤ 255) (ha' : 0 ≤ a'.toInt ∧ a'.toInt ≤ 255) (hb' : 0 ≤ b'.toInt ∧ b'.toInt ≤ 255) (hc' : 0 ≤ c'.toInt ∧ c'.toInt ≤ 255)
    (h : own_ans n (nar .byte ((nar .char a).toInt8.toInt32)) (nar .byte ((nar .char b).toInt8.toInt32)) (nar .byte ((nar .char c).toInt8.toInt32)) m (nar .byte ((nar .char a').toInt8.toInt32)) (nar .byte ((nar .char b').toInt8.toInt32)) (nar .byte ((nar .char c').toInt8.toInt32)) r x y) (g : own_eqs n a b c m a' b' c' t) :
    (t = 1 → x = y → r = 1) ∧ (t = 0 → r = 0) ∧ (¬ x = y → r = 0) := by
  obtain ⟨q, hq, hr⟩ := h
  have e := own_eqs_one (own_eqs_b ha hb hc ha' hb' hc' hq) g
  subst e
  rcases hr with ⟨r1, r2, r3⟩ | ⟨r1, r2⟩
  · exact ⟨fun _ _ => r1, fun z => absurd (r2.symm.trans z) (by decide), fun z => absurd r3 z⟩
  · refine ⟨fun z1 z2 => ?_, fun _ => r1, fun _ => r1⟩
    rcases r2 with r2 | r2
    · exact absurd (r2.symm.trans z1) (by decide)
    · exact absurd z2 r2
theorem own_ans_symm {n a b c m a' b' c' r : Int32} {x y : Int64} (h : own_ans n a b c m a' b' c' r x y) : own_ans m a' b' c' n a b c r y x := by
  obtain ⟨q, hq, hr⟩ := h
  refine ⟨q, own_eqs_symm hq, ?_⟩
  rcases hr with ⟨r1, r2, r3⟩ | ⟨r1, r2⟩
  · exact Or.inl ⟨r1, r2, r3.symm⟩
  · exact Or.inr ⟨r1, r2.imp id fun z e => z e.symm⟩
def Q_cin1 (Z : State) (sr ds : Nat) (ks kd : ClassId) (xa : Int32) (h0 : Heap) (n0 : Nat) (v_ : Option Value) (h : Heap) (L_ : List Loc) : Prop := (v_ = some (.int (1 : Int32))) ∧ (Fr n0 L_) ∧ (Keep h0 h [ds]) ∧ (Arv Z h ds kd .byte (1 : Int32) [(.int (nar .byte (xa.toInt8.toInt32)))] (.int (0 : Int32)))
set_option maxRecDepth 65536 in
set_option maxHeartbeats 40000000 in
theorem cin1 (l : Launch) (Z : State) (a0 : Array Value) (hw : ∀ d ∈ tables_1, d.before a0 Z = true) (ws : List Jvm.Cond) (sr ds : Nat) (ks kd : ClassId) (xa : Int32) (h0 : Heap) (n0 : Nat) (Z0 : n0 ≤ h0.size) (G0 : Arv Z h0 sr ks .char (1 : Int32) [(.int xa)] (.int (0 : Int32))) (G1 : Arv Z h0 ds kd .byte (1 : Int32) [(.int (0 : Int32))] (.int (0 : Int32))) (G2 : sr ≠ ds) (G3 : n0 ≤ ds) (G4 : 0 ≤ xa.toInt ∧ xa.toInt ≤ 255) :
    MetFree l (⟨"java/lang/StringUTF16", "compress", "([CI[BII)I"⟩ : MethodName) (head1 (Jvm.Cond.code (⟨"java/lang/StringUTF16", "compress", "([CI[BII)I"⟩ : MethodName) jdk_52_method_21_code 7 (some .int) :: ws) ({ frames := 0, cells := 0, slots := 0, locals := 0 } : Room)) (fun a_ U_ => a_ = #[(.ref sr), (.int (0 : Int32)), (.ref ds), (.int (0 : Int32)), (.int (1 : Int32))] ∧ Z.Warmed39 U_.vm ∧ U_.heap = h0) (fun _ _ _ _ _ => True) (fun _ U_ o_ V_ => ∃ v_ L_, o_ = .returned v_ ∧ Q_cin1 Z sr ds ks kd xa h0 n0 v_ V_.heap L_ ∧ FrameEnd U_ o_ V_ L_ ({ frames := 0, cells := 0, slots := 0, locals := 0 } : Room).cells ({ frames := 0, cells := 0, slots := 0, locals := 0 } : Room).slots) := by
  refine MetFree.of_bodySF (plainFor_of_name pn_6) hisR ?_
  intro p e s m args below meth c s₁ Bd hml0 hP hK
  obtain ⟨rfl, hZ, hh⟩ := hP
  have hx := Bd.exec
  have hby := Bd.bytes
  have hml : c.maxLocals = 7 := hml0
  have hown : s.vm.findClass "java/lang/StringUTF16" = some m.cls := findClass_of_methodNamed Bd.named
  have hnm := (name_of_methodNamed Bd.named Bd.method).1
  have hlk : meth.locks = false := Bd.notSynchronized
  have X0 : Stand p l e ({ frames := 0, cells := 0, slots := 0, locals := 0 } : Room) s m #[(.ref sr), (.int (0 : Int32)), (.ref ds), (.int (0 : Int32)), (.int (1 : Int32))] below meth c s₁ [] 0 0 := Stand.of_body Bd
  have e0 : s₁.heap = h0 := by rw [← hh, Bd.state]; rfl
  have N0 := Fr.nil n0
  have K0 := Keep.refl h0 [ds]
  refine Comes.out (Q := Q_cin1 Z sr ds ks kd xa h0 n0) (kc := ({ frames := 0, cells := 0, slots := 0, locals := 0 } : Room).cells) (ks := ({ frames := 0, cells := 0, slots := 0, locals := 0 } : Room).slots) ?_
  refine Comes.cast (ef_cin1 m sr ds) ?_
  have lt_sr : sr < h0.size := G0.lt
  have lt_ds : ds < h0.size := G1.lt
  show Comes p e below _ (s₁.setTop (mkF m 0 #[.val (.ref sr), .val (.int (0 : Int32)), .val (.ref ds), .val (.int (0 : Int32)), .val (.int (1 : Int32)), .unset, .unset] []))
  refine Comes.st (fun t k => XS.iconst X0.here hx rfl (hb hby d6_0) (XS.istore X0.here hx rfl (hb hby d6_1) rfl (l' := #[.val (.ref sr), .val (.int (0 : Int32)), .val (.ref ds), .val (.int (0 : Int32)), .val (.int (1 : Int32)), .val (.int (0 : Int32)), .unset]) rfl (XS.iload X0.here hx rfl (hb hby d6_3) rfl (XS.iload X0.here hx rfl (hb hby d6_5) rfl k)))) ?_
  show Comes p e below _ (s₁.setTop (mkF m 7 #[.val (.ref sr), .val (.int (0 : Int32)), .val (.ref ds), .val (.int (0 : Int32)), .val (.int (1 : Int32)), .val (.int (0 : Int32)), .unset] [(.int (1 : Int32)), (.int (0 : Int32))]))
  have hc7_1 : (0 : Int32) < (1 : Int32) := by decide
  refine Comes.st (fun t k => XS.icmpNo X0.here hx rfl (hb hby d6_7) rfl (tlt hc7_1).2.1 (XS.aloadN X0.here hx rfl (hb hby d6_10) rfl rfl (XS.iloadN X0.here hx rfl (hb hby d6_11) rfl k))) ?_
  show Comes p e below _ (s₁.setTop (mkF m 12 #[.val (.ref sr), .val (.int (0 : Int32)), .val (.ref ds), .val (.int (0 : Int32)), .val (.int (1 : Int32)), .val (.int (0 : Int32)), .unset] [(.int (0 : Int32)), (.ref sr)]))
  obtain ⟨cl2, Ar2, q2, S2, Ng2, H2, Gf2⟩ := id G0
  have hin2 : ¬ ((0 : Int32) < 0 ∨ cl2.slots.size ≤ ((0 : Int32)).toNatClampNeg) := inb_of S2 ⟨by decide, by decide⟩
  refine Comes.st (fun t k => X0.caload hx (j := (0 : Int32)) (v := (.int xa)) (by rw [e0]; exact Ar2.1) (State.isArrayOf_alike hZ.alike Ar2.2.1) Ar2.2.2 hin2 (Has.at H2 hin2 rfl) (g := (mkF m 12 #[.val (.ref sr), .val (.int (0 : Int32)), .val (.ref ds), .val (.int (0 : Int32)), .val (.int (1 : Int32)), .val (.int (0 : Int32)), .unset] [(.int (0 : Int32)), (.ref sr)])) rfl rfl (hb hby d6_12) _ (XS.istore X0.here hx rfl (hb hby d6_13) rfl (l' := #[.val (.ref sr), .val (.int (0 : Int32)), .val (.ref ds), .val (.int (0 : Int32)), .val (.int (1 : Int32)), .val (.int (0 : Int32)), .val (.int xa)]) rfl (XS.iload X0.here hx rfl (hb hby d6_15) rfl (XS.sipush X0.here hx rfl (hb hby d6_17) k)))) ?_
  show Comes p e below _ (s₁.setTop (mkF m 20 #[.val (.ref sr), .val (.int (0 : Int32)), .val (.ref ds), .val (.int (0 : Int32)), .val (.int (1 : Int32)), .val (.int (0 : Int32)), .val (.int xa)] [(.int (255 : Int32)), (.int xa)]))
  have hc20_3 : ¬ ((255 : Int32) < xa) := by exact own_le255 (by assumption)
  refine Comes.st (fun t k => XS.icmpYes X0.here hx rfl (pc0 := 20) (pc' := 26) rfl (hb hby d6_20) rfl (flt hc20_3).2.2.2 (by decide) (by decide) (XS.aloadN X0.here hx rfl (hb hby d6_26) rfl rfl (XS.iloadN X0.here hx rfl (hb hby d6_27) rfl (XS.iload X0.here hx rfl (hb hby d6_28) rfl (XS.i2b X0.here hx rfl (hb hby d6_30) rfl k))))) ?_
  show Comes p e below _ (s₁.setTop (mkF m 31 #[.val (.ref sr), .val (.int (0 : Int32)), .val (.ref ds), .val (.int (0 : Int32)), .val (.int (1 : Int32)), .val (.int (0 : Int32)), .val (.int xa)] [(.int (xa.toInt8.toInt32)), (.int (0 : Int32)), (.ref ds)]))
  obtain ⟨cl4, Ar4, q4, S4, Ng4, H4, Gf4⟩ := id G1
  have hin4 : ¬ ((0 : Int32) < 0 ∨ cl4.slots.size ≤ ((0 : Int32)).toNatClampNeg) := inb_of S4 ⟨by decide, by decide⟩
  obtain ⟨T4, h4, X4, e4, W4, st4⟩ := stB X0 hx hZ e0 Ar4 (j := (0 : Int32)) hin4 (g := (mkF m 31 #[.val (.ref sr), .val (.int (0 : Int32)), .val (.ref ds), .val (.int (0 : Int32)), .val (.int (1 : Int32)), .val (.int (0 : Int32)), .val (.int xa)] [(.int (xa.toInt8.toInt32)), (.int (0 : Int32)), (.ref ds)])) rfl rfl (hb hby d6_31)
  have V4 : Arv Z h4 ds kd .byte (1 : Int32) [(.int (nar .byte (xa.toInt8.toInt32)))] (.int (0 : Int32)) := Arv.set Ar4 q4 S4 Ng4 H4 Gf4 (fits_nar_byte _) W4 0 rfl (Nat.le_of_ble_eq_true rfl)
  have z4 : h4.size = h0.size := W4.size
  have gn5 : n0 ≤ ds := by omega
  have N4 := Fr.snoc X4 N0 gn5
  have K4 : Keep h0 h4 [ds] := K0.wr W4 (Or.inl (List.mem_of_getElem? (i := 0) rfl))
  refine Comes.st st4 ?_
  show Comes p e below _ (T4.setTop (mkF m 32 #[.val (.ref sr), .val (.int (0 : Int32)), .val (.ref ds), .val (.int (0 : Int32)), .val (.int (1 : Int32)), .val (.int (0 : Int32)), .val (.int xa)] []))
  refine Comes.st (fun t k => XS.iinc X4.here hx rfl (hb hby d6_32) rfl (l' := #[.val (.ref sr), .val (.int (1 : Int32)), .val (.ref ds), .val (.int (0 : Int32)), .val (.int (1 : Int32)), .val (.int (0 : Int32)), .val (.int xa)]) rfl (XS.iinc X4.here hx rfl (hb hby d6_35) rfl (l' := #[.val (.ref sr), .val (.int (1 : Int32)), .val (.ref ds), .val (.int (1 : Int32)), .val (.int (1 : Int32)), .val (.int (0 : Int32)), .val (.int xa)]) rfl (XS.iinc X4.here hx rfl (hb hby d6_38) rfl (l' := #[.val (.ref sr), .val (.int (1 : Int32)), .val (.ref ds), .val (.int (1 : Int32)), .val (.int (1 : Int32)), .val (.int (1 : Int32)), .val (.int xa)]) rfl (XS.goto X4.here hx rfl (pc0 := 41) (pc' := 3) rfl (hb hby d6_41) (by decide) (by decide) (XS.iload X4.here hx rfl (hb hby d6_3) rfl (XS.iload X4.here hx rfl (hb hby d6_5) rfl k)))))) ?_
  show Comes p e below _ (T4.setTop (mkF m 7 #[.val (.ref sr), .val (.int (1 : Int32)), .val (.ref ds), .val (.int (1 : Int32)), .val (.int (1 : Int32)), .val (.int (1 : Int32)), .val (.int xa)] [(.int (1 : Int32)), (.int (1 : Int32))]))
  have hc7_6 : ¬ ((1 : Int32) < (1 : Int32)) := by decide
  refine Comes.st (fun t k => XS.icmpYes X4.here hx rfl (pc0 := 7) (pc' := 44) rfl (hb hby d6_7) rfl (flt hc7_6).2.1 (by decide) (by decide) (XS.iload X4.here hx rfl (hb hby d6_44) rfl k)) ?_
  show Comes p e below _ (T4.setTop (mkF m 46 #[.val (.ref sr), .val (.int (1 : Int32)), .val (.ref ds), .val (.int (1 : Int32)), .val (.int (1 : Int32)), .val (.int (1 : Int32)), .val (.int xa)] [(.int (1 : Int32))]))
  exact Comes.retV X4 hx Bd.returns rfl (Or.inl ⟨rfl, Or.inl rfl, _, rfl⟩) hlk (hb hby d6_46) e4 ⟨rfl, N4, K4, V4⟩ (by decide) (by decide)
def Q_cou1 (Z : State) (sr : Nat) (ks : ClassId) (xa : Int32) (h0 : Heap) (n0 : Nat) (v_ : Option Value) (h : Heap) (L_ : List Loc) : Prop := ∃ (vb : Nat), ∃ (kb : ClassId), (v_ = some (.ref vb)) ∧ (Fr n0 L_) ∧ (Keep h0 h []) ∧ (Arv Z h vb kb .byte (1 : Int32) [(.int (nar .byte (xa.toInt8.toInt32)))] (.int (0 : Int32))) ∧ (h0.size ≤ vb)
set_option maxRecDepth 65536 in
set_option maxHeartbeats 40000000 in
theorem cou1 (l : Launch) (Z : State) (a0 : Array Value) (hw : ∀ d ∈ tables_1, d.before a0 Z = true) (ws : List Jvm.Cond) (sr : Nat) (ks : ClassId) (xa : Int32) (h0 : Heap) (n0 : Nat) (Z0 : n0 ≤ h0.size) (G0 : Arv Z h0 sr ks .char (1 : Int32) [(.int xa)] (.int (0 : Int32))) (G1 : 0 ≤ xa.toInt ∧ xa.toInt ≤ 255) :
    MetFree l (⟨"java/lang/StringUTF16", "compress", "([CII)[B"⟩ : MethodName) (head1 (Jvm.Cond.code (⟨"java/lang/StringUTF16", "compress", "([CII)[B"⟩ : MethodName) jdk_52_method_16_code 6 (some (.array .byte)) :: ws) ({ frames := 1, cells := 1, slots := 1, locals := 18 } : Room)) (fun a_ U_ => a_ = #[(.ref sr), (.int (0 : Int32)), (.int (1 : Int32))] ∧ Z.Warmed39 U_.vm ∧ U_.heap = h0) (fun _ _ _ _ _ => True) (fun _ U_ o_ V_ => ∃ v_ L_, o_ = .returned v_ ∧ Q_cou1 Z sr ks xa h0 n0 v_ V_.heap L_ ∧ FrameEnd U_ o_ V_ L_ ({ frames := 1, cells := 1, slots := 1, locals := 18 } : Room).cells ({ frames := 1, cells := 1, slots := 1, locals := 18 } : Room).slots) := by
  refine MetFree.of_bodySF (plainFor_of_name pn_5) hisR ?_
  intro p e s m args below meth c s₁ Bd hml0 hP hK
  obtain ⟨rfl, hZ, hh⟩ := hP
  have hx := Bd.exec
  have hby := Bd.bytes
  have hml : c.maxLocals = 6 := hml0
  have hown : s.vm.findClass "java/lang/StringUTF16" = some m.cls := findClass_of_methodNamed Bd.named
  have hnm := (name_of_methodNamed Bd.named Bd.method).1
  have hlk : meth.locks = false := Bd.notSynchronized
  have X0 : Stand p l e ({ frames := 1, cells := 1, slots := 1, locals := 18 } : Room) s m #[(.ref sr), (.int (0 : Int32)), (.int (1 : Int32))] below meth c s₁ [] 0 0 := Stand.of_body Bd
  have e0 : s₁.heap = h0 := by rw [← hh, Bd.state]; rfl
  have N0 := Fr.nil n0
  have K0 := Keep.refl h0 []
  refine Comes.out (Q := Q_cou1 Z sr ks xa h0 n0) (kc := ({ frames := 1, cells := 1, slots := 1, locals := 18 } : Room).cells) (ks := ({ frames := 1, cells := 1, slots := 1, locals := 18 } : Room).slots) ?_
  refine Comes.cast (ef_cou1 m sr) ?_
  have lt_sr : sr < h0.size := G0.lt
  show Comes p e below _ (s₁.setTop (mkF m 0 #[.val (.ref sr), .val (.int (0 : Int32)), .val (.int (1 : Int32)), .unset, .unset, .unset] []))
  refine Comes.st (fun t k => XS.iloadN X0.here hx rfl (hb hby d5_0) rfl k) ?_
  show Comes p e below _ (s₁.setTop (mkF m 1 #[.val (.ref sr), .val (.int (0 : Int32)), .val (.int (1 : Int32)), .unset, .unset, .unset] [(.int (1 : Int32))]))
  obtain ⟨T1, h1, k1, X1, e1, E1, A1, st1⟩ := newP X0 hx hZ (hw _ (List.mem_of_getElem? (i := 19) rfl)) e0 (g := (mkF m 1 #[.val (.ref sr), .val (.int (0 : Int32)), .val (.int (1 : Int32)), .unset, .unset, .unset] [(.int (1 : Int32))])) rfl (hb hby d5_1) rfl (by decide) (cap := 1) (by decide) (by decide) (by decide) (by decide)
  obtain ⟨b1, g1⟩ : ∃ z, z = h0.size := ⟨_, rfl⟩
  rw [← g1] at A1 st1
  have z1 : h0.size ≤ h1.size := E1.1
  have lt1 : b1 < h1.size := A1.lt
  have V1 : Arv Z h1 b1 k1 .byte (1 : Int32) [(.int (0 : Int32))] (.int (0 : Int32)) := (Arv.new A1 (by decide)).pad (pad_rep [] (.int (0 : Int32)) 1)
  have K1 : Keep h0 h1 [] := K0.ext E1
  refine Comes.st st1 ?_
  show Comes p e below _ (T1.setTop (mkF m 3 #[.val (.ref sr), .val (.int (0 : Int32)), .val (.int (1 : Int32)), .unset, .unset, .unset] [(.ref b1)]))
  refine Comes.st (fun t k => XS.astoreN X1.here hx rfl (hb hby d5_3) rfl rfl (l' := #[.val (.ref sr), .val (.int (0 : Int32)), .val (.int (1 : Int32)), .val (.ref b1), .unset, .unset]) rfl (XS.aloadN X1.here hx rfl (hb hby d5_4) rfl rfl (XS.iloadN X1.here hx rfl (hb hby d5_5) rfl (XS.aloadN X1.here hx rfl (hb hby d5_6) rfl rfl (XS.iconst X1.here hx rfl (hb hby d5_7) (XS.iloadN X1.here hx rfl (hb hby d5_8) rfl k)))))) ?_
  show Comes p e below _ (T1.setTop (mkF m 9 #[.val (.ref sr), .val (.int (0 : Int32)), .val (.int (1 : Int32)), .val (.ref b1), .unset, .unset] [(.int (1 : Int32)), (.int (0 : Int32)), (.ref b1), (.int (0 : Int32)), (.ref sr)]))
  have F2 : Arv Z h1 sr ks .char (1 : Int32) [(.int xa)] (.int (0 : Int32)) := (G0.ext E1)
  have ne3 : sr ≠ b1 := by omega
  obtain ⟨_, _, ⟨T4, L4, k4, n4⟩, -, X4, ⟨Lc4, hQ4, l4, y4, z4⟩, st4⟩ := Jvm.LawKit.callS X1 hx (y := (⟨"java/lang/StringUTF16", "compress", "([CI[BII)I"⟩ : MethodName)) hown (mvT hZ (hw _ (List.mem_of_getElem? (i := 31) rfl))) (mvT hZ (hw _ (List.mem_of_getElem? (i := 32) rfl))) (mvT hZ (hw _ (List.mem_of_getElem? (i := 29) rfl))) (mvT hZ (hw _ (List.mem_of_getElem? (i := 33) rfl))) (by decide) (backOf (W := 0) (cin1 l Z a0 hw [] sr b1 ks k1 xa h1 n0 (by omega)  F2 V1 ne3 (by omega) (by assumption)) hZ (hw _ (List.mem_of_getElem? (i := 33) rfl)) (hw _ (List.mem_of_getElem? (i := 29) rfl)) (by decide) (by decide)) (g := (mkF m 9 #[.val (.ref sr), .val (.int (0 : Int32)), .val (.int (1 : Int32)), .val (.ref b1), .unset, .unset] [(.int (1 : Int32)), (.int (0 : Int32)), (.ref b1), (.int (0 : Int32)), (.ref sr)])) rfl (by rw [hml]; rfl) (argsL := [(.ref sr), (.int (0 : Int32)), (.ref b1), (.int (0 : Int32)), (.int (1 : Int32))]) (rest := []) (lenOf pd_0 rfl) rfl (by show 2 * 0 + _ ≤ _; exact Nat.le_of_eq rfl) (hb hby d5_9) (fun _ _ => ⟨rfl, e1, (by decide : 1 + 0 ≤ _), (by decide : 1 + 0 ≤ _)⟩)
  dsimp only [Pt.U, Pt.locs, Pt.cells, Pt.slots] at X4 l4 y4 z4 st4 hQ4
  subst l4 y4 z4
  obtain ⟨rfl, Nq4, Kq4, P4_0⟩ := hQ4
  have N4 := Fr.app N0 Nq4
  have z4k : h1.size ≤ T4.heap.size := Kq4.1
  have gz5 : h0.size ≤ b1 := by omega
  have K4 : Keep h0 T4.heap [] := K1.trans Kq4 (allS (Or.inr gz5) all0)
  refine Comes.st st4 ?_
  have lt_6 : b1 < T4.heap.size := P4_0.lt
  show Comes p e below _ (T4.setTop (mkF m 12 #[.val (.ref sr), .val (.int (0 : Int32)), .val (.int (1 : Int32)), .val (.ref b1), .unset, .unset] [(.int (1 : Int32))]))
  refine Comes.st (fun t k => XS.istore X4.here hx rfl (hb hby d5_12) rfl (l' := #[.val (.ref sr), .val (.int (0 : Int32)), .val (.int (1 : Int32)), .val (.ref b1), .val (.int (1 : Int32)), .unset]) rfl (XS.iload X4.here hx rfl (hb hby d5_14) rfl (XS.iloadN X4.here hx rfl (hb hby d5_16) rfl k))) ?_
  show Comes p e below _ (T4.setTop (mkF m 17 #[.val (.ref sr), .val (.int (0 : Int32)), .val (.int (1 : Int32)), .val (.ref b1), .val (.int (1 : Int32)), .unset] [(.int (1 : Int32)), (.int (1 : Int32))]))
  have hc17_7 : (1 : Int32) = (1 : Int32) := by decide
  refine Comes.st (fun t k => XS.icmpYes X4.here hx rfl (pc0 := 17) (pc' := 57) rfl (hb hby d5_17) rfl (teq hc17_7).1 (by decide) (by decide) (XS.aloadN X4.here hx rfl (hb hby d5_57) rfl rfl k)) ?_
  show Comes p e below _ (T4.setTop (mkF m 58 #[.val (.ref sr), .val (.int (0 : Int32)), .val (.int (1 : Int32)), .val (.ref b1), .val (.int (1 : Int32)), .unset] [(.ref b1)]))
  exact Comes.retV X4 hx Bd.returns (narrow_ref rfl) (Or.inr (Or.inr (Or.inr (Or.inr ⟨rfl, rfl, rfl⟩)))) hlk (hb hby d5_58) rfl ⟨b1, k1, rfl, N4, K4, P4_0, (by omega)⟩ (by decide) (by decide)
def Q_cod1 (Z : State) (ar : Nat) (ka : ClassId) (xa : Int32) (h0 : Heap) (n0 : Nat) (v_ : Option Value) (h : Heap) (L_ : List Loc) : Prop := (v_ = some (.int (0 : Int32))) ∧ (Fr n0 L_) ∧ (h = h0)
set_option maxRecDepth 65536 in
set_option maxHeartbeats 40000000 in
theorem cod1 (l : Launch) (Z : State) (a0 : Array Value) (hw : ∀ d ∈ tables_1, d.before a0 Z = true) (ws : List Jvm.Cond) (ar : Nat) (ka : ClassId) (xa : Int32) (h0 : Heap) (n0 : Nat) (Z0 : n0 ≤ h0.size) (G0 : Arv Z h0 ar ka .byte (1 : Int32) [(.int xa)] (.int (0 : Int32))) :
    MetFree l (⟨"java/lang/StringUTF16", "coderFromArrayLen", "([BI)B"⟩ : MethodName) (head1 (Jvm.Cond.code (⟨"java/lang/StringUTF16", "coderFromArrayLen", "([BI)B"⟩ : MethodName) jdk_52_method_15_code 2 (some .byte) :: ws) ({ frames := 0, cells := 0, slots := 0, locals := 0 } : Room)) (fun a_ U_ => a_ = #[(.ref ar), (.int (1 : Int32))] ∧ Z.Warmed39 U_.vm ∧ U_.heap = h0) (fun _ _ _ _ _ => True) (fun _ U_ o_ V_ => ∃ v_ L_, o_ = .returned v_ ∧ Q_cod1 Z ar ka xa h0 n0 v_ V_.heap L_ ∧ FrameEnd U_ o_ V_ L_ ({ frames := 0, cells := 0, slots := 0, locals := 0 } : Room).cells ({ frames := 0, cells := 0, slots := 0, locals := 0 } : Room).slots) := by
  refine MetFree.of_bodySF (plainFor_of_name pn_7) hisR ?_
  intro p e s m args below meth c s₁ Bd hml0 hP hK
  obtain ⟨rfl, hZ, hh⟩ := hP
  have hx := Bd.exec
  have hby := Bd.bytes
  have hml : c.maxLocals = 2 := hml0
  have hown : s.vm.findClass "java/lang/StringUTF16" = some m.cls := findClass_of_methodNamed Bd.named
  have hnm := (name_of_methodNamed Bd.named Bd.method).1
  have hlk : meth.locks = false := Bd.notSynchronized
  have X0 : Stand p l e ({ frames := 0, cells := 0, slots := 0, locals := 0 } : Room) s m #[(.ref ar), (.int (1 : Int32))] below meth c s₁ [] 0 0 := Stand.of_body Bd
  have e0 : s₁.heap = h0 := by rw [← hh, Bd.state]; rfl
  have N0 := Fr.nil n0
  refine Comes.out (Q := Q_cod1 Z ar ka xa h0 n0) (kc := ({ frames := 0, cells := 0, slots := 0, locals := 0 } : Room).cells) (ks := ({ frames := 0, cells := 0, slots := 0, locals := 0 } : Room).slots) ?_
  refine Comes.cast (ef_cod1 m ar) ?_
  have lt_ar : ar < h0.size := G0.lt
  show Comes p e below _ (s₁.setTop (mkF m 0 #[.val (.ref ar), .val (.int (1 : Int32))] []))
  refine Comes.st (fun t k => XS.iloadN X0.here hx rfl (hb hby d7_0) rfl (XS.aloadN X0.here hx rfl (hb hby d7_1) rfl rfl k)) ?_
  show Comes p e below _ (s₁.setTop (mkF m 2 #[.val (.ref ar), .val (.int (1 : Int32))] [(.ref ar), (.int (1 : Int32))]))
  obtain ⟨cl1, Ar1, -, S1, Ng1, -, -⟩ := id G0
  refine Comes.st (fun t k => X0.arraylength hx (by rw [e0]; exact Ar1.1) (State.isArrayOf_alike hZ.alike Ar1.2.1) (g := (mkF m 2 #[.val (.ref ar), .val (.int (1 : Int32))] [(.ref ar), (.int (1 : Int32))])) rfl rfl (hb hby d7_2) _ k) ?_
  rw [len_of S1 Ng1]
  show Comes p e below _ (s₁.setTop (mkF m 3 #[.val (.ref ar), .val (.int (1 : Int32))] [(.int (1 : Int32)), (.int (1 : Int32))]))
  refine Comes.st (fun t k => XS.isub X0.here hx rfl (hb hby d7_3) rfl k) ?_
  show Comes p e below _ (s₁.setTop (mkF m 4 #[.val (.ref ar), .val (.int (1 : Int32))] [(.int ((1 : Int32) - (1 : Int32)))]))
  rw [show ((1 : Int32) - (1 : Int32)) = (0 : Int32) from by decide]
  show Comes p e below _ (s₁.setTop (mkF m 4 #[.val (.ref ar), .val (.int (1 : Int32))] [(.int (0 : Int32))]))
  refine Comes.st (fun t k => XS.bipush X0.here hx rfl (hb hby d7_4) (XS.iushr X0.here hx rfl (hb hby d7_6) rfl k)) ?_
  show Comes p e below _ (s₁.setTop (mkF m 7 #[.val (.ref ar), .val (.int (1 : Int32))] [(.int (((0 : Int32).toUInt32 >>> ((31 : Int32) &&& 31).toUInt32).toInt32))]))
  rw [show (((0 : Int32).toUInt32 >>> ((31 : Int32) &&& 31).toUInt32).toInt32) = (0 : Int32) from by decide]
  show Comes p e below _ (s₁.setTop (mkF m 7 #[.val (.ref ar), .val (.int (1 : Int32))] [(.int (0 : Int32))]))
  refine Comes.st (fun t k => XS.i2b X0.here hx rfl (hb hby d7_7) rfl k) ?_
  show Comes p e below _ (s₁.setTop (mkF m 8 #[.val (.ref ar), .val (.int (1 : Int32))] [(.int ((0 : Int32).toInt8.toInt32))]))
  exact Comes.retN X0 hx (t := .byte) Bd.returns (by simp) hlk (hb hby d7_8) e0 ⟨rfl, N0, rfl⟩ (by decide) (by decide)
def Q_sin1 (Z : State) (ea sr : Nat) (ks : ClassId) (cs xa : Int32) (h0 : Heap) (n0 : Nat) (v_ : Option Value) (h : Heap) (L_ : List Loc) : Prop := ∃ (vb : Nat), ∃ (kb : ClassId), (v_ = none) ∧ (Fr n0 L_) ∧ (Keep h0 h [ea]) ∧ (Exa Z h ea "java/lang/String") ∧ (Fld Z h ea "java/lang/String" "value" "[B" (.ref vb)) ∧ (Fld Z h ea "java/lang/String" "coder" "B" (.int (0 : Int32))) ∧ (Arv Z h vb kb .byte (1 : Int32) [(.int (nar .byte (xa.toInt8.toInt32)))] (.int (0 : Int32)))
set_option maxRecDepth 65536 in
set_option maxHeartbeats 40000000 in
theorem sin1 (l : Launch) (Z : State) (a0 : Array Value) (hw : ∀ d ∈ tables_1, d.before a0 Z = true) (ws : List Jvm.Cond) (ea sr : Nat) (ks : ClassId) (cs xa : Int32) (h0 : Heap) (n0 : Nat) (Z0 : n0 ≤ h0.size) (G0 : Exa Z h0 ea "java/lang/String") (G1 : Fld Z h0 ea "java/lang/String" "value" "[B" .null) (G2 : Fld Z h0 ea "java/lang/String" "coder" "B" (.int (0 : Int32))) (G3 : Arv Z h0 sr ks .char (1 : Int32) [(.int xa)] (.int (0 : Int32))) (G4 : sr ≠ ea) (G5 : n0 ≤ ea) (G6 : Sta Z Z.heap "java/lang/String" "COMPACT_STRINGS" "Z" (.int cs)) (G7 : ¬ (cs = (0 : Int32))) (G8 : Old Z n0 h0) (G9 : 0 ≤ xa.toInt ∧ xa.toInt ≤ 255) :
    MetFree l (⟨"java/lang/String", "<init>", "([CIILjava/lang/Void;)V"⟩ : MethodName) (head1 (Jvm.Cond.code (⟨"java/lang/String", "<init>", "([CIILjava/lang/Void;)V"⟩ : MethodName) jdk_42_method_149_code 6 none :: ws) ({ frames := 2, cells := 1, slots := 1, locals := 35 } : Room)) (fun a_ U_ => a_ = #[(.ref ea), (.ref sr), (.int (0 : Int32)), (.int (1 : Int32)), .null] ∧ Z.Warmed39 U_.vm ∧ U_.heap = h0) (fun _ _ _ _ _ => True) (fun _ U_ o_ V_ => ∃ v_ L_, o_ = .returned v_ ∧ Q_sin1 Z ea sr ks cs xa h0 n0 v_ V_.heap L_ ∧ FrameEnd U_ o_ V_ L_ ({ frames := 2, cells := 1, slots := 1, locals := 35 } : Room).cells ({ frames := 2, cells := 1, slots := 1, locals := 35 } : Room).slots) := by
  refine MetFree.of_bodySF (plainFor_of_name pn_3) hisR ?_
  intro p e s m args below meth c s₁ Bd hml0 hP hK
  obtain ⟨rfl, hZ, hh⟩ := hP
  have hx := Bd.exec
  have hby := Bd.bytes
  have hml : c.maxLocals = 6 := hml0
  have hown : s.vm.findClass "java/lang/String" = some m.cls := findClass_of_methodNamed Bd.named
  have hnm := (name_of_methodNamed Bd.named Bd.method).1
  have hlk : meth.locks = false := Bd.notSynchronized
  have X0 : Stand p l e ({ frames := 2, cells := 1, slots := 1, locals := 35 } : Room) s m #[(.ref ea), (.ref sr), (.int (0 : Int32)), (.int (1 : Int32)), .null] below meth c s₁ [] 0 0 := Stand.of_body Bd
  have e0 : s₁.heap = h0 := by rw [← hh, Bd.state]; rfl
  have N0 := Fr.nil n0
  have K0 := Keep.refl h0 [ea]
  refine Comes.out (Q := Q_sin1 Z ea sr ks cs xa h0 n0) (kc := ({ frames := 2, cells := 1, slots := 1, locals := 35 } : Room).cells) (ks := ({ frames := 2, cells := 1, slots := 1, locals := 35 } : Room).slots) ?_
  refine Comes.cast (ef_sin1 m ea sr) ?_
  have lt_ea : ea < h0.size := G0.lt
  have lt_sr : sr < h0.size := G3.lt
  show Comes p e below _ (s₁.setTop (mkF m 0 #[.val (.ref ea), .val (.ref sr), .val (.int (0 : Int32)), .val (.int (1 : Int32)), .val .null, .unset] []))
  refine Comes.st (fun t k => XS.aloadN X0.here hx rfl (hb hby d3_0) rfl rfl k) ?_
  show Comes p e below _ (s₁.setTop (mkF m 1 #[.val (.ref ea), .val (.ref sr), .val (.int (0 : Int32)), .val (.int (1 : Int32)), .val .null, .unset] [(.ref ea)]))
  obtain ⟨T1, X1, e1, st1⟩ := initO X0 hx hZ hown (hw _ (List.mem_of_getElem? (i := 15) rfl)) (hw _ (List.mem_of_getElem? (i := 16) rfl)) (hw _ (List.mem_of_getElem? (i := 17) rfl)) e0 (g := (mkF m 1 #[.val (.ref ea), .val (.ref sr), .val (.int (0 : Int32)), .val (.int (1 : Int32)), .val .null, .unset] [(.ref ea)])) rfl (by rw [hml]; rfl) rfl (hb hby d3_1) (by decide) (W := 0) (by show 2 * 0 + _ ≤ _; exact Nat.le_of_eq rfl) (by decide)
  refine Comes.st st1 ?_
  show Comes p e below _ (T1.setTop (mkF m 4 #[.val (.ref ea), .val (.ref sr), .val (.int (0 : Int32)), .val (.int (1 : Int32)), .val .null, .unset] []))
  refine Comes.st (fun t k => XS.iloadN X1.here hx rfl (hb hby d3_4) rfl k) ?_
  show Comes p e below _ (T1.setTop (mkF m 5 #[.val (.ref ea), .val (.ref sr), .val (.int (0 : Int32)), .val (.int (1 : Int32)), .val .null, .unset] [(.int (1 : Int32))]))
  have hc5_2 : ¬ ((1 : Int32) = (0 : Int32)) := by decide
  refine Comes.st (fun t k => XS.ifYes X1.here hx rfl (pc0 := 5) (pc' := 27) rfl (hb hby d3_5) rfl ((if0 _ _).trans (feq hc5_2).2) (by decide) (by decide) k) ?_
  show Comes p e below _ (T1.setTop (mkF m 27 #[.val (.ref ea), .val (.ref sr), .val (.int (0 : Int32)), .val (.int (1 : Int32)), .val .null, .unset] []))
  obtain ⟨T3, X3, e3, st3⟩ := getS2 X1 hx hZ hown (host := "") (Or.inl (hw _ (List.mem_of_getElem? (i := 26) rfl))) Via.refl e1 (G6.ext G8.2) (g := (mkF m 27 #[.val (.ref ea), .val (.ref sr), .val (.int (0 : Int32)), .val (.int (1 : Int32)), .val .null, .unset] [])) rfl (hb hby d3_27)
  refine Comes.st st3 ?_
  show Comes p e below _ (T3.setTop (mkF m 30 #[.val (.ref ea), .val (.ref sr), .val (.int (0 : Int32)), .val (.int (1 : Int32)), .val .null, .unset] [(.int cs)]))
  have hc30_4 : ¬ (cs = (0 : Int32)) := by assumption
  refine Comes.st (fun t k => XS.ifNo X3.here hx rfl (hb hby d3_30) rfl ((if0 _ _).trans (feq hc30_4).1) (XS.aloadN X3.here hx rfl (hb hby d3_33) rfl rfl (XS.iloadN X3.here hx rfl (hb hby d3_34) rfl (XS.iloadN X3.here hx rfl (hb hby d3_35) rfl k)))) ?_
  show Comes p e below _ (T3.setTop (mkF m 36 #[.val (.ref ea), .val (.ref sr), .val (.int (0 : Int32)), .val (.int (1 : Int32)), .val .null, .unset] [(.int (1 : Int32)), (.int (0 : Int32)), (.ref sr)]))
  obtain ⟨_, _, ⟨T5, L5, k5, n5⟩, -, X5, ⟨Lc5, hQ5, l5, y5, z5⟩, st5⟩ := Jvm.LawKit.callS X3 hx (y := (⟨"java/lang/StringUTF16", "compress", "([CII)[B"⟩ : MethodName)) hown (mvT hZ (hw _ (List.mem_of_getElem? (i := 27) rfl))) (mvT hZ (hw _ (List.mem_of_getElem? (i := 28) rfl))) (mvT hZ (hw _ (List.mem_of_getElem? (i := 29) rfl))) (mvT hZ (hw _ (List.mem_of_getElem? (i := 30) rfl))) (by decide) (backOf (W := 0) (cou1 l Z a0 hw [] sr ks xa h0 n0 (by omega)  G3 (by assumption)) hZ (hw _ (List.mem_of_getElem? (i := 30) rfl)) (hw _ (List.mem_of_getElem? (i := 29) rfl)) (by decide) (by decide)) (g := (mkF m 36 #[.val (.ref ea), .val (.ref sr), .val (.int (0 : Int32)), .val (.int (1 : Int32)), .val .null, .unset] [(.int (1 : Int32)), (.int (0 : Int32)), (.ref sr)])) rfl (by rw [hml]; rfl) (argsL := [(.ref sr), (.int (0 : Int32)), (.int (1 : Int32))]) (rest := []) (lenOf pd_1 rfl) rfl (by show 2 * 0 + _ ≤ _; exact Nat.le_of_eq rfl) (hb hby d3_36) (fun _ _ => ⟨rfl, e3, (by decide : 0 + 1 ≤ _), (by decide : 0 + 1 ≤ _)⟩)
  dsimp only [Pt.U, Pt.locs, Pt.cells, Pt.slots] at X5 l5 y5 z5 st5 hQ5
  subst l5 y5 z5
  obtain ⟨o6, r7, rfl, Nq5, Kq5, P5_0, P5_1⟩ := hQ5
  have N5 := Fr.app N0 Nq5
  have z5k : h0.size ≤ T5.heap.size := Kq5.1
  have K5 : Keep h0 T5.heap [ea] := K0.trans Kq5 all0
  refine Comes.st st5 ?_
  have lt_8 : o6 < T5.heap.size := P5_0.lt
  show Comes p e below _ (T5.setTop (mkF m 39 #[.val (.ref ea), .val (.ref sr), .val (.int (0 : Int32)), .val (.int (1 : Int32)), .val .null, .unset] [(.ref o6)]))
  refine Comes.st (fun t k => XS.astore X5.here hx rfl (hb hby d3_39) rfl rfl (l' := #[.val (.ref ea), .val (.ref sr), .val (.int (0 : Int32)), .val (.int (1 : Int32)), .val .null, .val (.ref o6)]) rfl (XS.aloadN X5.here hx rfl (hb hby d3_41) rfl rfl (XS.aload X5.here hx rfl (hb hby d3_42) rfl rfl (XS.iloadN X5.here hx rfl (hb hby d3_44) rfl k)))) ?_
  show Comes p e below _ (T5.setTop (mkF m 45 #[.val (.ref ea), .val (.ref sr), .val (.int (0 : Int32)), .val (.int (1 : Int32)), .val .null, .val (.ref o6)] [(.int (1 : Int32)), (.ref o6), (.ref ea)]))
  obtain ⟨_, _, ⟨T9, L9, k9, n9⟩, -, X9, ⟨Lc9, hQ9, l9, y9, z9⟩, st9⟩ := Jvm.LawKit.callS X5 hx (y := (⟨"java/lang/StringUTF16", "coderFromArrayLen", "([BI)B"⟩ : MethodName)) hown (mvT hZ (hw _ (List.mem_of_getElem? (i := 34) rfl))) (mvT hZ (hw _ (List.mem_of_getElem? (i := 35) rfl))) (mvT hZ (hw _ (List.mem_of_getElem? (i := 29) rfl))) (mvT hZ (hw _ (List.mem_of_getElem? (i := 36) rfl))) (by decide) (backOf (W := 1) (cod1 l Z a0 hw [] o6 r7 ((nar .byte (xa.toInt8.toInt32))) T5.heap n0 (by omega)  P5_0) hZ (hw _ (List.mem_of_getElem? (i := 36) rfl)) (hw _ (List.mem_of_getElem? (i := 29) rfl)) (by decide) (by decide)) (g := (mkF m 45 #[.val (.ref ea), .val (.ref sr), .val (.int (0 : Int32)), .val (.int (1 : Int32)), .val .null, .val (.ref o6)] [(.int (1 : Int32)), (.ref o6), (.ref ea)])) rfl (by rw [hml]; rfl) (argsL := [(.ref o6), (.int (1 : Int32))]) (rest := [(.ref ea)]) (lenOf pd_2 rfl) rfl (by show 2 * 0 + _ ≤ _; exact Nat.le_of_eq rfl) (hb hby d3_45) (fun _ _ => ⟨rfl, rfl, (by decide : 1 + 0 ≤ _), (by decide : 1 + 0 ≤ _)⟩)
  dsimp only [Pt.U, Pt.locs, Pt.cells, Pt.slots] at X9 l9 y9 z9 st9 hQ9
  subst l9 y9 z9
  obtain ⟨rfl, Nq9, hs9⟩ := hQ9
  have N9 := Fr.app N5 Nq9
  refine Comes.st st9 ?_
  show Comes p e below _ (T9.setTop (mkF m 48 #[.val (.ref ea), .val (.ref sr), .val (.int (0 : Int32)), .val (.int (1 : Int32)), .val .null, .val (.ref o6)] [(.int (0 : Int32)), (.ref ea)]))
  have F10 : Exa Z T5.heap ea "java/lang/String" := (G0.keep Kq5)
  have F11 : Fld Z T5.heap ea "java/lang/String" "coder" "B" (.int (0 : Int32)) := (G2.keep Kq5 nin0)
  obtain ⟨T12, h12, X12, e12, W12, st12⟩ := putFN X9 hx hZ hown (hw _ (List.mem_of_getElem? (i := 25) rfl)) Via.refl hs9 F11 F10 (Or.inr ⟨(hw _ (List.mem_of_getElem? (i := 21) rfl)), rfl, hnm⟩) (hw _ (List.mem_of_getElem? (i := 5) rfl)) (ty := .byte) (v' := (.int (nar .byte (0 : Int32)))) (by decide) rfl (fits_nar_byte _) (g := (mkF m 48 #[.val (.ref ea), .val (.ref sr), .val (.int (0 : Int32)), .val (.int (1 : Int32)), .val .null, .val (.ref o6)] [(.int (0 : Int32)), (.ref ea)])) rfl rfl (hb hby d3_48)
  have Fw12 := F11.same W12
  rw [show (nar .byte (0 : Int32)) = (0 : Int32) from by decide] at Fw12
  have z12 : h12.size = T5.heap.size := W12.size
  have gn13 : n0 ≤ ea := by omega
  have N12 := Fr.snoc X12 N9 gn13
  have K12 : Keep h0 h12 [ea] := K5.wr W12 (Or.inl (List.mem_of_getElem? (i := 0) rfl))
  refine Comes.st st12 ?_
  show Comes p e below _ (T12.setTop (mkF m 51 #[.val (.ref ea), .val (.ref sr), .val (.int (0 : Int32)), .val (.int (1 : Int32)), .val .null, .val (.ref o6)] []))
  refine Comes.st (fun t k => XS.aloadN X12.here hx rfl (hb hby d3_51) rfl rfl (XS.aload X12.here hx rfl (hb hby d3_52) rfl rfl k)) ?_
  show Comes p e below _ (T12.setTop (mkF m 54 #[.val (.ref ea), .val (.ref sr), .val (.int (0 : Int32)), .val (.int (1 : Int32)), .val .null, .val (.ref o6)] [(.ref o6), (.ref ea)]))
  have F14 : Exa Z h12 ea "java/lang/String" := (F10.wr W12)
  have F15 : Fld Z h12 ea "java/lang/String" "value" "[B" .null := ((G1.keep Kq5 nin0).other W12 (Or.inr (slot_ne (Or.inr (hw _ (List.mem_of_getElem? (i := 20) rfl))) (Or.inr (hw _ (List.mem_of_getElem? (i := 21) rfl))) (by decide) (t := (.array .byte)) (t' := .byte) (by decide) (by decide))))
  obtain ⟨T16, h16, X16, e16, W16, st16⟩ := putF X12 hx hZ hown (host := "") (Or.inl (hw _ (List.mem_of_getElem? (i := 24) rfl))) Via.refl e12 F15 F14 (Or.inr ⟨(hw _ (List.mem_of_getElem? (i := 20) rfl)), rfl, hnm⟩) (hw _ (List.mem_of_getElem? (i := 5) rfl)) (ty := (.array .byte)) (by decide) rfl rfl (g := (mkF m 54 #[.val (.ref ea), .val (.ref sr), .val (.int (0 : Int32)), .val (.int (1 : Int32)), .val .null, .val (.ref o6)] [(.ref o6), (.ref ea)])) rfl rfl (hb hby d3_54)
  have Fw16 := F15.same W16
  have z16 : h16.size = h12.size := W16.size
  have N16 := Fr.snoc X16 N12 gn13
  have K16 : Keep h0 h16 [ea] := K12.wr W16 (Or.inl (List.mem_of_getElem? (i := 0) rfl))
  refine Comes.st st16 ?_
  show Comes p e below _ (T16.setTop (mkF m 57 #[.val (.ref ea), .val (.ref sr), .val (.int (0 : Int32)), .val (.int (1 : Int32)), .val .null, .val (.ref o6)] []))
  have F17 : Exa Z h16 ea "java/lang/String" := (F14.wr W16)
  have F18 : Fld Z h16 ea "java/lang/String" "coder" "B" (.int (0 : Int32)) := (Fw12.other W16 (Or.inr (slot_ne (Or.inr (hw _ (List.mem_of_getElem? (i := 21) rfl))) (Or.inr (hw _ (List.mem_of_getElem? (i := 20) rfl))) (by decide) (t := .byte) (t' := (.array .byte)) (by decide) (by decide))))
  have ne19 : o6 ≠ ea := by omega
  have F20 : Arv Z h16 o6 r7 .byte (1 : Int32) [(.int (nar .byte (xa.toInt8.toInt32)))] (.int (0 : Int32)) := ((P5_0.other W12 ne19).other W16 ne19)
  exact Comes.ret0 X16 hx Bd.returns hlk (hb hby d3_57) e16 ⟨o6, r7, rfl, N16, K16, F17, Fw16, F18, F20⟩ (by decide) (by decide)
def Q_sic1 (Z : State) (ea sr : Nat) (ks : ClassId) (cs xa : Int32) (h0 : Heap) (n0 : Nat) (v_ : Option Value) (h : Heap) (L_ : List Loc) : Prop := ∃ (vb : Nat), ∃ (kb : ClassId), (v_ = none) ∧ (Fr n0 L_) ∧ (Keep h0 h [ea]) ∧ (Exa Z h ea "java/lang/String") ∧ (Fld Z h ea "java/lang/String" "value" "[B" (.ref vb)) ∧ (Fld Z h ea "java/lang/String" "coder" "B" (.int (0 : Int32))) ∧ (Arv Z h vb kb .byte (1 : Int32) [(.int (nar .byte (xa.toInt8.toInt32)))] (.int (0 : Int32)))
set_option maxRecDepth 65536 in
set_option maxHeartbeats 40000000 in
theorem sic1 (l : Launch) (Z : State) (a0 : Array Value) (hw : ∀ d ∈ tables_1, d.before a0 Z = true) (ws : List Jvm.Cond) (ea sr : Nat) (ks : ClassId) (cs xa : Int32) (h0 : Heap) (n0 : Nat) (Z0 : n0 ≤ h0.size) (G0 : Exa Z h0 ea "java/lang/String") (G1 : Fld Z h0 ea "java/lang/String" "value" "[B" .null) (G2 : Fld Z h0 ea "java/lang/String" "coder" "B" (.int (0 : Int32))) (G3 : Arv Z h0 sr ks .char (1 : Int32) [(.int xa)] (.int (0 : Int32))) (G4 : sr ≠ ea) (G5 : n0 ≤ ea) (G6 : Sta Z Z.heap "java/lang/String" "COMPACT_STRINGS" "Z" (.int cs)) (G7 : ¬ (cs = (0 : Int32))) (G8 : Old Z n0 h0) (G9 : 0 ≤ xa.toInt ∧ xa.toInt ≤ 255) :
    MetFree l (⟨"java/lang/String", "<init>", "([C)V"⟩ : MethodName) (head1 (Jvm.Cond.code (⟨"java/lang/String", "<init>", "([C)V"⟩ : MethodName) jdk_42_method_3_code 2 none :: ws) ({ frames := 3, cells := 1, slots := 1, locals := 52 } : Room)) (fun a_ U_ => a_ = #[(.ref ea), (.ref sr)] ∧ Z.Warmed39 U_.vm ∧ U_.heap = h0) (fun _ _ _ _ _ => True) (fun _ U_ o_ V_ => ∃ v_ L_, o_ = .returned v_ ∧ Q_sic1 Z ea sr ks cs xa h0 n0 v_ V_.heap L_ ∧ FrameEnd U_ o_ V_ L_ ({ frames := 3, cells := 1, slots := 1, locals := 52 } : Room).cells ({ frames := 3, cells := 1, slots := 1, locals := 52 } : Room).slots) := by
  refine MetFree.of_bodySF (plainFor_of_name pn_2) hisR ?_
  intro p e s m args below meth c s₁ Bd hml0 hP hK
  obtain ⟨rfl, hZ, hh⟩ := hP
  have hx := Bd.exec
  have hby := Bd.bytes
  have hml : c.maxLocals = 2 := hml0
  have hown : s.vm.findClass "java/lang/String" = some m.cls := findClass_of_methodNamed Bd.named
  have hnm := (name_of_methodNamed Bd.named Bd.method).1
  have hlk : meth.locks = false := Bd.notSynchronized
  have X0 : Stand p l e ({ frames := 3, cells := 1, slots := 1, locals := 52 } : Room) s m #[(.ref ea), (.ref sr)] below meth c s₁ [] 0 0 := Stand.of_body Bd
  have e0 : s₁.heap = h0 := by rw [← hh, Bd.state]; rfl
  have N0 := Fr.nil n0
  have K0 := Keep.refl h0 [ea]
  refine Comes.out (Q := Q_sic1 Z ea sr ks cs xa h0 n0) (kc := ({ frames := 3, cells := 1, slots := 1, locals := 52 } : Room).cells) (ks := ({ frames := 3, cells := 1, slots := 1, locals := 52 } : Room).slots) ?_
  refine Comes.cast (ef_sic1 m ea sr) ?_
  have lt_ea : ea < h0.size := G0.lt
  have lt_sr : sr < h0.size := G3.lt
  show Comes p e below _ (s₁.setTop (mkF m 0 #[.val (.ref ea), .val (.ref sr)] []))
  refine Comes.st (fun t k => XS.aloadN X0.here hx rfl (hb hby d2_0) rfl rfl (XS.aloadN X0.here hx rfl (hb hby d2_1) rfl rfl (XS.iconst X0.here hx rfl (hb hby d2_2) (XS.aloadN X0.here hx rfl (hb hby d2_3) rfl rfl k)))) ?_
  show Comes p e below _ (s₁.setTop (mkF m 4 #[.val (.ref ea), .val (.ref sr)] [(.ref sr), (.int (0 : Int32)), (.ref sr), (.ref ea)]))
  obtain ⟨cl1, Ar1, -, S1, Ng1, -, -⟩ := id G3
  refine Comes.st (fun t k => X0.arraylength hx (by rw [e0]; exact Ar1.1) (State.isArrayOf_alike hZ.alike Ar1.2.1) (g := (mkF m 4 #[.val (.ref ea), .val (.ref sr)] [(.ref sr), (.int (0 : Int32)), (.ref sr), (.ref ea)])) rfl rfl (hb hby d2_4) _ k) ?_
  rw [len_of S1 Ng1]
  show Comes p e below _ (s₁.setTop (mkF m 5 #[.val (.ref ea), .val (.ref sr)] [(.int (1 : Int32)), (.int (0 : Int32)), (.ref sr), (.ref ea)]))
  refine Comes.st (fun t k => XS.aconstNull X0.here hx rfl (hb hby d2_5) k) ?_
  show Comes p e below _ (s₁.setTop (mkF m 6 #[.val (.ref ea), .val (.ref sr)] [.null, (.int (1 : Int32)), (.int (0 : Int32)), (.ref sr), (.ref ea)]))
  obtain ⟨_, _, ⟨T2, L2, k2, n2⟩, -, X2, ⟨Lc2, hQ2, l2, y2, z2⟩, st2⟩ := X0.specialBack hx (y := (⟨"java/lang/String", "<init>", "([CIILjava/lang/Void;)V"⟩ : MethodName)) rfl hown (mvT hZ (hw _ (List.mem_of_getElem? (i := 11) rfl))) (mvT hZ (hw _ (List.mem_of_getElem? (i := 12) rfl))) (mvT hZ (hw _ (List.mem_of_getElem? (i := 14) rfl))) (by decide) (backOf (W := 0) (sin1 l Z a0 hw [] ea sr ks cs xa h0 n0 (by omega)  G0 G1 G2 G3 G4 (by omega) G6 (by assumption) G8 (by assumption)) hZ (hw _ (List.mem_of_getElem? (i := 14) rfl)) (hw _ (List.mem_of_getElem? (i := 6) rfl)) (by decide) (by decide)) (g := (mkF m 6 #[.val (.ref ea), .val (.ref sr)] [.null, (.int (1 : Int32)), (.int (0 : Int32)), (.ref sr), (.ref ea)])) rfl (by rw [hml]; rfl) (Steps.refl _) (a := ea) (argsL := [(.ref sr), (.int (0 : Int32)), (.int (1 : Int32)), .null]) (rest := []) (lenOf pd_3 rfl) rfl (by show 2 * 0 + _ ≤ _; exact Nat.le_of_eq rfl) (hb hby d2_6) (fun _ _ => ⟨rfl, e0, (by decide : 0 + 1 ≤ _), (by decide : 0 + 1 ≤ _)⟩)
  dsimp only [Pt.U, Pt.locs, Pt.cells, Pt.slots] at X2 l2 y2 z2 st2 hQ2
  subst l2 y2 z2
  obtain ⟨o3, r4, rfl, Nq2, Kq2, P2_0, P2_1, P2_2, P2_3⟩ := hQ2
  have N2 := Fr.app N0 Nq2
  have z2k : h0.size ≤ T2.heap.size := Kq2.1
  have K2 : Keep h0 T2.heap [ea] := K0.trans Kq2 (allS (Or.inl (List.mem_of_getElem? (i := 0) rfl)) all0)
  refine Comes.go st2 ?_
  have lt_5 : o3 < T2.heap.size := P2_3.lt
  show Comes p e below _ (T2.setTop (mkF m 9 #[.val (.ref ea), .val (.ref sr)] []))
  exact Comes.ret0 X2 hx Bd.returns hlk (hb hby d2_9) rfl ⟨o3, r4, rfl, N2, K2, P2_0, P2_1, P2_2, P2_3⟩ (by decide) (by decide)
def Q_mk1 (Z : State) (xa xb xc cs : Int32) (h0 : Heap) (n0 : Nat) (v_ : Option Value) (h : Heap) (L_ : List Loc) : Prop := ∃ (r : Nat), ∃ (vb : Nat), ∃ (kb : ClassId), (v_ = some (.ref r)) ∧ (Fr n0 L_) ∧ (Keep h0 h []) ∧ (Exa Z h r "java/lang/String") ∧ (Fld Z h r "java/lang/String" "value" "[B" (.ref vb)) ∧ (Fld Z h r "java/lang/String" "coder" "B" (.int (0 : Int32))) ∧ (Arv Z h vb kb .byte (1 : Int32) [(.int (nar .byte ((nar .char xa).toInt8.toInt32)))] (.int (0 : Int32))) ∧ (h0.size ≤ r)
set_option maxRecDepth 65536 in
set_option maxHeartbeats 40000000 in
theorem mk1 (l : Launch) (Z : State) (a0 : Array Value) (hw : ∀ d ∈ tables_1, d.before a0 Z = true) (ws : List Jvm.Cond) (xa xb xc cs : Int32) (h0 : Heap) (n0 : Nat) (Z0 : n0 ≤ h0.size) (G0 : Sta Z Z.heap "java/lang/String" "COMPACT_STRINGS" "Z" (.int cs)) (G1 : ¬ (cs = (0 : Int32))) (G2 : Old Z n0 h0) (G3 : 0 ≤ xa.toInt ∧ xa.toInt ≤ 255) (G4 : 0 ≤ xb.toInt ∧ xb.toInt ≤ 255) (G5 : 0 ≤ xc.toInt ∧ xc.toInt ≤ 255) :
    MetFree l (⟨"com/example/soft_throttle/softthrottle/usage/RequestCountEqualsPinLaw", "mk", "(ICCC)Ljava/lang/String;"⟩ : MethodName) (head1 (Jvm.Cond.code (⟨"com/example/soft_throttle/softthrottle/usage/RequestCountEqualsPinLaw", "mk", "(ICCC)Ljava/lang/String;"⟩ : MethodName) method_2_code 4 (some (.object "java/lang/String")) :: ws) ({ frames := 4, cells := 6, slots := 12, locals := 66 } : Room)) (fun a_ U_ => a_ = #[(.int (1 : Int32)), (.int xa), (.int xb), (.int xc)] ∧ Z.Warmed39 U_.vm ∧ U_.heap = h0) (fun _ _ _ _ _ => True) (fun _ U_ o_ V_ => ∃ v_ L_, o_ = .returned v_ ∧ Q_mk1 Z xa xb xc cs h0 n0 v_ V_.heap L_ ∧ FrameEnd U_ o_ V_ L_ ({ frames := 4, cells := 6, slots := 12, locals := 66 } : Room).cells ({ frames := 4, cells := 6, slots := 12, locals := 66 } : Room).slots) := by
  refine MetFree.of_bodySF (plainFor_of_name pn_1) hisR ?_
  intro p e s m args below meth c s₁ Bd hml0 hP hK
  obtain ⟨rfl, hZ, hh⟩ := hP
  have hx := Bd.exec
  have hby := Bd.bytes
  have hml : c.maxLocals = 4 := hml0
  have hown : s.vm.findClass "com/example/soft_throttle/softthrottle/usage/RequestCountEqualsPinLaw" = some m.cls := findClass_of_methodNamed Bd.named
  have hnm := (name_of_methodNamed Bd.named Bd.method).1
  have hlk : meth.locks = false := Bd.notSynchronized
  have X0 : Stand p l e ({ frames := 4, cells := 6, slots := 12, locals := 66 } : Room) s m #[(.int (1 : Int32)), (.int xa), (.int xb), (.int xc)] below meth c s₁ [] 0 0 := Stand.of_body Bd
  have e0 : s₁.heap = h0 := by rw [← hh, Bd.state]; rfl
  have N0 := Fr.nil n0
  have K0 := Keep.refl h0 []
  refine Comes.out (Q := Q_mk1 Z xa xb xc cs h0 n0) (kc := ({ frames := 4, cells := 6, slots := 12, locals := 66 } : Room).cells) (ks := ({ frames := 4, cells := 6, slots := 12, locals := 66 } : Room).slots) ?_
  refine Comes.cast (ef_mk1 m xa xb xc) ?_
  show Comes p e below _ (s₁.setTop (mkF m 0 #[.val (.int (1 : Int32)), .val (.int xa), .val (.int xb), .val (.int xc)] []))
  refine Comes.st (fun t k => XS.iloadN X0.here hx rfl (hb hby d1_0) rfl k) ?_
  show Comes p e below _ (s₁.setTop (mkF m 1 #[.val (.int (1 : Int32)), .val (.int xa), .val (.int xb), .val (.int xc)] [(.int (1 : Int32))]))
  have hc1_1 : ¬ ((1 : Int32) = (0 : Int32)) := by decide
  refine Comes.st (fun t k => XS.ifYes X0.here hx rfl (pc0 := 1) (pc' := 15) rfl (hb hby d1_1) rfl ((if0 _ _).trans (feq hc1_1).2) (by decide) (by decide) (XS.iloadN X0.here hx rfl (hb hby d1_15) rfl (XS.iconst X0.here hx rfl (hb hby d1_16) k))) ?_
  show Comes p e below _ (s₁.setTop (mkF m 17 #[.val (.int (1 : Int32)), .val (.int xa), .val (.int xb), .val (.int xc)] [(.int (1 : Int32)), (.int (1 : Int32))]))
  have hc17_2 : (1 : Int32) = (1 : Int32) := by decide
  refine Comes.st (fun t k => XS.icmpNo X0.here hx rfl (hb hby d1_17) rfl (teq hc17_2).2 k) ?_
  show Comes p e below _ (s₁.setTop (mkF m 20 #[.val (.int (1 : Int32)), .val (.int xa), .val (.int xb), .val (.int xc)] []))
  obtain ⟨T3, h3, X3, e3, E3, A3, D3, -, st3⟩ := newO X0 hx hZ hown (hw _ (List.mem_of_getElem? (i := 4) rfl)) (hw _ (List.mem_of_getElem? (i := 5) rfl)) (hw _ (List.mem_of_getElem? (i := 6) rfl)) e0 (g := (mkF m 20 #[.val (.int (1 : Int32)), .val (.int xa), .val (.int xb), .val (.int xc)] [])) rfl (hb hby d1_20) (by decide) (by decide)
  obtain ⟨b3, g3⟩ : ∃ z, z = h0.size := ⟨_, rfl⟩
  rw [← g3] at A3 D3 st3
  have z3 : h0.size ≤ h3.size := E3.1
  have lt3 : b3 < h3.size := A3.lt
  have F4 : Fld Z h3 b3 "java/lang/String" "value" "[B" .null := D3 (Or.inr (hw _ (List.mem_of_getElem? (i := 20) rfl))) (ty := (.array .byte)) (by decide)
  have F5 : Fld Z h3 b3 "java/lang/String" "coder" "B" (.int (0 : Int32)) := D3 (Or.inr (hw _ (List.mem_of_getElem? (i := 21) rfl))) (ty := .byte) (by decide)
  have K3 : Keep h0 h3 [] := K0.ext E3
  refine Comes.st st3 ?_
  show Comes p e below _ (T3.setTop (mkF m 23 #[.val (.int (1 : Int32)), .val (.int xa), .val (.int xb), .val (.int xc)] [(.ref b3)]))
  refine Comes.st (fun t k => XS.dup X3.here hx rfl (hb hby d1_23) rfl rfl (XS.iconst X3.here hx rfl (hb hby d1_24) k)) ?_
  show Comes p e below _ (T3.setTop (mkF m 25 #[.val (.int (1 : Int32)), .val (.int xa), .val (.int xb), .val (.int xc)] [(.int (1 : Int32)), (.ref b3), (.ref b3)]))
  obtain ⟨T6, h6, k6, X6, e6, E6, A6, st6⟩ := newP X3 hx hZ (hw _ (List.mem_of_getElem? (i := 7) rfl)) e3 (g := (mkF m 25 #[.val (.int (1 : Int32)), .val (.int xa), .val (.int xb), .val (.int xc)] [(.int (1 : Int32)), (.ref b3), (.ref b3)])) rfl (hb hby d1_25) rfl (by decide) (cap := 1) (by decide) (by decide) (by decide) (by decide)
  obtain ⟨b6, g6⟩ : ∃ z, z = h3.size := ⟨_, rfl⟩
  rw [← g6] at A6 st6
  have z6 : h3.size ≤ h6.size := E6.1
  have lt6 : b6 < h6.size := A6.lt
  have V6 : Arv Z h6 b6 k6 .char (1 : Int32) [(.int (0 : Int32))] (.int (0 : Int32)) := (Arv.new A6 (by decide)).pad (pad_rep [] (.int (0 : Int32)) 1)
  have K6 : Keep h0 h6 [] := K3.ext E6
  refine Comes.st st6 ?_
  show Comes p e below _ (T6.setTop (mkF m 27 #[.val (.int (1 : Int32)), .val (.int xa), .val (.int xb), .val (.int xc)] [(.ref b6), (.ref b3), (.ref b3)]))
  refine Comes.st (fun t k => XS.dup X6.here hx rfl (hb hby d1_27) rfl rfl (XS.iconst X6.here hx rfl (hb hby d1_28) (XS.iloadN X6.here hx rfl (hb hby d1_29) rfl k))) ?_
  show Comes p e below _ (T6.setTop (mkF m 30 #[.val (.int (1 : Int32)), .val (.int xa), .val (.int xb), .val (.int xc)] [(.int xa), (.int (0 : Int32)), (.ref b6), (.ref b6), (.ref b3), (.ref b3)]))
  obtain ⟨cl7, Ar7, q7, S7, Ng7, H7, Gf7⟩ := id V6
  have hin7 : ¬ ((0 : Int32) < 0 ∨ cl7.slots.size ≤ ((0 : Int32)).toNatClampNeg) := inb_of S7 ⟨by decide, by decide⟩
  obtain ⟨T7, h7, X7, e7, W7, st7⟩ := stC X6 hx hZ e6 Ar7 (j := (0 : Int32)) hin7 (g := (mkF m 30 #[.val (.int (1 : Int32)), .val (.int xa), .val (.int xb), .val (.int xc)] [(.int xa), (.int (0 : Int32)), (.ref b6), (.ref b6), (.ref b3), (.ref b3)])) rfl rfl (hb hby d1_30)
  have V7 : Arv Z h7 b6 k6 .char (1 : Int32) [(.int (nar .char xa))] (.int (0 : Int32)) := Arv.set Ar7 q7 S7 Ng7 H7 Gf7 (fits_nar_char _) W7 0 rfl (Nat.le_of_ble_eq_true rfl)
  have z7 : h7.size = h6.size := W7.size
  have gn8 : n0 ≤ b6 := by omega
  have N7 := Fr.snoc X7 N0 gn8
  have gz9 : h0.size ≤ b6 := by omega
  have K7 : Keep h0 h7 [] := K6.wr W7 (Or.inr gz9)
  refine Comes.st st7 ?_
  show Comes p e below _ (T7.setTop (mkF m 31 #[.val (.int (1 : Int32)), .val (.int xa), .val (.int xb), .val (.int xc)] [(.ref b6), (.ref b3), (.ref b3)]))
  have F10 : Exa Z h7 b3 "java/lang/String" := ((A3.ext E6).wr W7)
  have ne11 : b3 ≠ b6 := by omega
  have F12 : Fld Z h7 b3 "java/lang/String" "value" "[B" .null := ((F4.ext E6).other W7 (Or.inl ne11))
  have F13 : Fld Z h7 b3 "java/lang/String" "coder" "B" (.int (0 : Int32)) := ((F5.ext E6).other W7 (Or.inl ne11))
  have Od14 : Old Z n0 h7 := (((G2.ext E3).ext E6).wr W7 (by omega))
  obtain ⟨_, _, ⟨T15, L15, k15, n15⟩, -, X15, ⟨Lc15, hQ15, l15, y15, z15⟩, st15⟩ := X7.specialBack hx (y := (⟨"java/lang/String", "<init>", "([C)V"⟩ : MethodName)) rfl hown (mvT hZ (hw _ (List.mem_of_getElem? (i := 8) rfl))) (mvT hZ (hw _ (List.mem_of_getElem? (i := 9) rfl))) (mvT hZ (hw _ (List.mem_of_getElem? (i := 10) rfl))) (by decide) (backOf (W := 1) (sic1 l Z a0 hw [] b3 b6 k6 cs ((nar .char xa)) h7 n0 (by omega)  F10 F12 F13 V7 (Ne.symm ne11) (by omega) G0 (by first | assumption | (rw [own_char (by assumption)]; assumption)) Od14 (by first | assumption | (rw [own_char (by assumption)]; assumption))) hZ (hw _ (List.mem_of_getElem? (i := 10) rfl)) (hw _ (List.mem_of_getElem? (i := 6) rfl)) (by decide) (by decide)) (g := (mkF m 31 #[.val (.int (1 : Int32)), .val (.int xa), .val (.int xb), .val (.int xc)] [(.ref b6), (.ref b3), (.ref b3)])) rfl (by rw [hml]; rfl) (Steps.refl _) (a := b3) (argsL := [(.ref b6)]) (rest := [(.ref b3)]) (lenOf pd_4 rfl) rfl (by show 2 * 0 + _ ≤ _; exact Nat.le_of_eq rfl) (hb hby d1_31) (fun _ _ => ⟨rfl, e7, (by decide : 2 + 1 ≤ _), (by decide : 5 + 1 ≤ _)⟩)
  dsimp only [Pt.U, Pt.locs, Pt.cells, Pt.slots] at X15 l15 y15 z15 st15 hQ15
  subst l15 y15 z15
  obtain ⟨o16, r17, rfl, Nq15, Kq15, P15_0, P15_1, P15_2, P15_3⟩ := hQ15
  have N15 := Fr.app N7 Nq15
  have z15k : h7.size ≤ T15.heap.size := Kq15.1
  have gz18 : h0.size ≤ b3 := by omega
  have K15 : Keep h0 T15.heap [] := K7.trans Kq15 (allS (Or.inr gz18) all0)
  refine Comes.go st15 ?_
  have lt_19 : b3 < T15.heap.size := P15_0.lt
  have lt_20 : o16 < T15.heap.size := P15_3.lt
  show Comes p e below _ (T15.setTop (mkF m 34 #[.val (.int (1 : Int32)), .val (.int xa), .val (.int xb), .val (.int xc)] [(.ref b3)]))
  exact Comes.retV X15 hx Bd.returns (narrow_ref rfl) (Or.inr (Or.inr (Or.inr (Or.inr ⟨rfl, rfl, rfl⟩)))) hlk (hb hby d1_34) rfl ⟨b3, o16, r17, rfl, N15, K15, P15_0, P15_1, P15_2, P15_3, (by omega)⟩ (by decide) (by decide)
def Q_cin2 (Z : State) (sr ds : Nat) (ks kd : ClassId) (xa xb : Int32) (h0 : Heap) (n0 : Nat) (v_ : Option Value) (h : Heap) (L_ : List Loc) : Prop := (v_ = some (.int (2 : Int32))) ∧ (Fr n0 L_) ∧ (Keep h0 h [ds]) ∧ (Arv Z h ds kd .byte (2 : Int32) [(.int (nar .byte (xa.toInt8.toInt32))), (.int (nar .byte (xb.toInt8.toInt32)))] (.int (0 : Int32)))
set_option maxRecDepth 65536 in
set_option maxHeartbeats 40000000 in
theorem cin2 (l : Launch) (Z : State) (a0 : Array Value) (hw : ∀ d ∈ tables_1, d.before a0 Z = true) (ws : List Jvm.Cond) (sr ds : Nat) (ks kd : ClassId) (xa xb : Int32) (h0 : Heap) (n0 : Nat) (Z0 : n0 ≤ h0.size) (G0 : Arv Z h0 sr ks .char (2 : Int32) [(.int xa), (.int xb)] (.int (0 : Int32))) (G1 : Arv Z h0 ds kd .byte (2 : Int32) [(.int (0 : Int32)), (.int (0 : Int32))] (.int (0 : Int32))) (G2 : sr ≠ ds) (G3 : n0 ≤ ds) (G4 : 0 ≤ xa.toInt ∧ xa.toInt ≤ 255) (G5 : 0 ≤ xb.toInt ∧ xb.toInt ≤ 255) :
    MetFree l (⟨"java/lang/StringUTF16", "compress", "([CI[BII)I"⟩ : MethodName) (head1 (Jvm.Cond.code (⟨"java/lang/StringUTF16", "compress", "([CI[BII)I"⟩ : MethodName) jdk_52_method_21_code 7 (some .int) :: ws) ({ frames := 0, cells := 0, slots := 0, locals := 0 } : Room)) (fun a_ U_ => a_ = #[(.ref sr), (.int (0 : Int32)), (.ref ds), (.int (0 : Int32)), (.int (2 : Int32))] ∧ Z.Warmed39 U_.vm ∧ U_.heap = h0) (fun _ _ _ _ _ => True) (fun _ U_ o_ V_ => ∃ v_ L_, o_ = .returned v_ ∧ Q_cin2 Z sr ds ks kd xa xb h0 n0 v_ V_.heap L_ ∧ FrameEnd U_ o_ V_ L_ ({ frames := 0, cells := 0, slots := 0, locals := 0 } : Room).cells ({ frames := 0, cells := 0, slots := 0, locals := 0 } : Room).slots) := by
  refine MetFree.of_bodySF (plainFor_of_name pn_6) hisR ?_
  intro p e s m args below meth c s₁ Bd hml0 hP hK
  obtain ⟨rfl, hZ, hh⟩ := hP
  have hx := Bd.exec
  have hby := Bd.bytes
  have hml : c.maxLocals = 7 := hml0
  have hown : s.vm.findClass "java/lang/StringUTF16" = some m.cls := findClass_of_methodNamed Bd.named
  have hnm := (name_of_methodNamed Bd.named Bd.method).1
  have hlk : meth.locks = false := Bd.notSynchronized
  have X0 : Stand p l e ({ frames := 0, cells := 0, slots := 0, locals := 0 } : Room) s m #[(.ref sr), (.int (0 : Int32)), (.ref ds), (.int (0 : Int32)), (.int (2 : Int32))] below meth c s₁ [] 0 0 := Stand.of_body Bd
  have e0 : s₁.heap = h0 := by rw [← hh, Bd.state]; rfl
  have N0 := Fr.nil n0
  have K0 := Keep.refl h0 [ds]
  refine Comes.out (Q := Q_cin2 Z sr ds ks kd xa xb h0 n0) (kc := ({ frames := 0, cells := 0, slots := 0, locals := 0 } : Room).cells) (ks := ({ frames := 0, cells := 0, slots := 0, locals := 0 } : Room).slots) ?_
  refine Comes.cast (ef_cin2 m sr ds) ?_
  have lt_sr : sr < h0.size := G0.lt
  have lt_ds : ds < h0.size := G1.lt
  show Comes p e below _ (s₁.setTop (mkF m 0 #[.val (.ref sr), .val (.int (0 : Int32)), .val (.ref ds), .val (.int (0 : Int32)), .val (.int (2 : Int32)), .unset, .unset] []))
  refine Comes.st (fun t k => XS.iconst X0.here hx rfl (hb hby d6_0) (XS.istore X0.here hx rfl (hb hby d6_1) rfl (l' := #[.val (.ref sr), .val (.int (0 : Int32)), .val (.ref ds), .val (.int (0 : Int32)), .val (.int (2 : Int32)), .val (.int (0 : Int32)), .unset]) rfl (XS.iload X0.here hx rfl (hb hby d6_3) rfl (XS.iload X0.here hx rfl (hb hby d6_5) rfl k)))) ?_
  show Comes p e below _ (s₁.setTop (mkF m 7 #[.val (.ref sr), .val (.int (0 : Int32)), .val (.ref ds), .val (.int (0 : Int32)), .val (.int (2 : Int32)), .val (.int (0 : Int32)), .unset] [(.int (2 : Int32)), (.int (0 : Int32))]))
  have hc7_1 : (0 : Int32) < (2 : Int32) := by decide
  refine Comes.st (fun t k => XS.icmpNo X0.here hx rfl (hb hby d6_7) rfl (tlt hc7_1).2.1 (XS.aloadN X0.here hx rfl (hb hby d6_10) rfl rfl (XS.iloadN X0.here hx rfl (hb hby d6_11) rfl k))) ?_
  show Comes p e below _ (s₁.setTop (mkF m 12 #[.val (.ref sr), .val (.int (0 : Int32)), .val (.ref ds), .val (.int (0 : Int32)), .val (.int (2 : Int32)), .val (.int (0 : Int32)), .unset] [(.int (0 : Int32)), (.ref sr)]))
  obtain ⟨cl2, Ar2, q2, S2, Ng2, H2, Gf2⟩ := id G0
  have hin2 : ¬ ((0 : Int32) < 0 ∨ cl2.slots.size ≤ ((0 : Int32)).toNatClampNeg) := inb_of S2 ⟨by decide, by decide⟩
  refine Comes.st (fun t k => X0.caload hx (j := (0 : Int32)) (v := (.int xa)) (by rw [e0]; exact Ar2.1) (State.isArrayOf_alike hZ.alike Ar2.2.1) Ar2.2.2 hin2 (Has.at H2 hin2 rfl) (g := (mkF m 12 #[.val (.ref sr), .val (.int (0 : Int32)), .val (.ref ds), .val (.int (0 : Int32)), .val (.int (2 : Int32)), .val (.int (0 : Int32)), .unset] [(.int (0 : Int32)), (.ref sr)])) rfl rfl (hb hby d6_12) _ (XS.istore X0.here hx rfl (hb hby d6_13) rfl (l' := #[.val (.ref sr), .val (.int (0 : Int32)), .val (.ref ds), .val (.int (0 : Int32)), .val (.int (2 : Int32)), .val (.int (0 : Int32)), .val (.int xa)]) rfl (XS.iload X0.here hx rfl (hb hby d6_15) rfl (XS.sipush X0.here hx rfl (hb hby d6_17) k)))) ?_
  show Comes p e below _ (s₁.setTop (mkF m 20 #[.val (.ref sr), .val (.int (0 : Int32)), .val (.ref ds), .val (.int (0 : Int32)), .val (.int (2 : Int32)), .val (.int (0 : Int32)), .val (.int xa)] [(.int (255 : Int32)), (.int xa)]))
  have hc20_3 : ¬ ((255 : Int32) < xa) := by exact own_le255 (by assumption)
  refine Comes.st (fun t k => XS.icmpYes X0.here hx rfl (pc0 := 20) (pc' := 26) rfl (hb hby d6_20) rfl (flt hc20_3).2.2.2 (by decide) (by decide) (XS.aloadN X0.here hx rfl (hb hby d6_26) rfl rfl (XS.iloadN X0.here hx rfl (hb hby d6_27) rfl (XS.iload X0.here hx rfl (hb hby d6_28) rfl (XS.i2b X0.here hx rfl (hb hby d6_30) rfl k))))) ?_
  show Comes p e below _ (s₁.setTop (mkF m 31 #[.val (.ref sr), .val (.int (0 : Int32)), .val (.ref ds), .val (.int (0 : Int32)), .val (.int (2 : Int32)), .val (.int (0 : Int32)), .val (.int xa)] [(.int (xa.toInt8.toInt32)), (.int (0 : Int32)), (.ref ds)]))
  obtain ⟨cl4, Ar4, q4, S4, Ng4, H4, Gf4⟩ := id G1
  have hin4 : ¬ ((0 : Int32) < 0 ∨ cl4.slots.size ≤ ((0 : Int32)).toNatClampNeg) := inb_of S4 ⟨by decide, by decide⟩
  obtain ⟨T4, h4, X4, e4, W4, st4⟩ := stB X0 hx hZ e0 Ar4 (j := (0 : Int32)) hin4 (g := (mkF m 31 #[.val (.ref sr), .val (.int (0 : Int32)), .val (.ref ds), .val (.int (0 : Int32)), .val (.int (2 : Int32)), .val (.int (0 : Int32)), .val (.int xa)] [(.int (xa.toInt8.toInt32)), (.int (0 : Int32)), (.ref ds)])) rfl rfl (hb hby d6_31)
  have V4 : Arv Z h4 ds kd .byte (2 : Int32) [(.int (nar .byte (xa.toInt8.toInt32))), (.int (0 : Int32))] (.int (0 : Int32)) := Arv.set Ar4 q4 S4 Ng4 H4 Gf4 (fits_nar_byte _) W4 0 rfl (Nat.le_of_ble_eq_true rfl)
  have z4 : h4.size = h0.size := W4.size
  have gn5 : n0 ≤ ds := by omega
  have N4 := Fr.snoc X4 N0 gn5
  have K4 : Keep h0 h4 [ds] := K0.wr W4 (Or.inl (List.mem_of_getElem? (i := 0) rfl))
  refine Comes.st st4 ?_
  show Comes p e below _ (T4.setTop (mkF m 32 #[.val (.ref sr), .val (.int (0 : Int32)), .val (.ref ds), .val (.int (0 : Int32)), .val (.int (2 : Int32)), .val (.int (0 : Int32)), .val (.int xa)] []))
  refine Comes.st (fun t k => XS.iinc X4.here hx rfl (hb hby d6_32) rfl (l' := #[.val (.ref sr), .val (.int (1 : Int32)), .val (.ref ds), .val (.int (0 : Int32)), .val (.int (2 : Int32)), .val (.int (0 : Int32)), .val (.int xa)]) rfl (XS.iinc X4.here hx rfl (hb hby d6_35) rfl (l' := #[.val (.ref sr), .val (.int (1 : Int32)), .val (.ref ds), .val (.int (1 : Int32)), .val (.int (2 : Int32)), .val (.int (0 : Int32)), .val (.int xa)]) rfl (XS.iinc X4.here hx rfl (hb hby d6_38) rfl (l' := #[.val (.ref sr), .val (.int (1 : Int32)), .val (.ref ds), .val (.int (1 : Int32)), .val (.int (2 : Int32)), .val (.int (1 : Int32)), .val (.int xa)]) rfl (XS.goto X4.here hx rfl (pc0 := 41) (pc' := 3) rfl (hb hby d6_41) (by decide) (by decide) (XS.iload X4.here hx rfl (hb hby d6_3) rfl (XS.iload X4.here hx rfl (hb hby d6_5) rfl k)))))) ?_
  show Comes p e below _ (T4.setTop (mkF m 7 #[.val (.ref sr), .val (.int (1 : Int32)), .val (.ref ds), .val (.int (1 : Int32)), .val (.int (2 : Int32)), .val (.int (1 : Int32)), .val (.int xa)] [(.int (2 : Int32)), (.int (1 : Int32))]))
  have hc7_6 : (1 : Int32) < (2 : Int32) := by decide
  refine Comes.st (fun t k => XS.icmpNo X4.here hx rfl (hb hby d6_7) rfl (tlt hc7_6).2.1 (XS.aloadN X4.here hx rfl (hb hby d6_10) rfl rfl (XS.iloadN X4.here hx rfl (hb hby d6_11) rfl k))) ?_
  show Comes p e below _ (T4.setTop (mkF m 12 #[.val (.ref sr), .val (.int (1 : Int32)), .val (.ref ds), .val (.int (1 : Int32)), .val (.int (2 : Int32)), .val (.int (1 : Int32)), .val (.int xa)] [(.int (1 : Int32)), (.ref sr)]))
  have F7 : Arv Z h4 sr ks .char (2 : Int32) [(.int xa), (.int xb)] (.int (0 : Int32)) := (G0.other W4 G2)
  obtain ⟨cl8, Ar8, q8, S8, Ng8, H8, Gf8⟩ := id F7
  have hin8 : ¬ ((1 : Int32) < 0 ∨ cl8.slots.size ≤ ((1 : Int32)).toNatClampNeg) := inb_of S8 ⟨by decide, by decide⟩
  refine Comes.st (fun t k => X4.caload hx (j := (1 : Int32)) (v := (.int xb)) (by rw [e4]; exact Ar8.1) (State.isArrayOf_alike hZ.alike Ar8.2.1) Ar8.2.2 hin8 (Has.at H8 hin8 rfl) (g := (mkF m 12 #[.val (.ref sr), .val (.int (1 : Int32)), .val (.ref ds), .val (.int (1 : Int32)), .val (.int (2 : Int32)), .val (.int (1 : Int32)), .val (.int xa)] [(.int (1 : Int32)), (.ref sr)])) rfl rfl (hb hby d6_12) _ (XS.istore X4.here hx rfl (hb hby d6_13) rfl (l' := #[.val (.ref sr), .val (.int (1 : Int32)), .val (.ref ds), .val (.int (1 : Int32)), .val (.int (2 : Int32)), .val (.int (1 : Int32)), .val (.int xb)]) rfl (XS.iload X4.here hx rfl (hb hby d6_15) rfl (XS.sipush X4.here hx rfl (hb hby d6_17) k)))) ?_
  show Comes p e below _ (T4.setTop (mkF m 20 #[.val (.ref sr), .val (.int (1 : Int32)), .val (.ref ds), .val (.int (1 : Int32)), .val (.int (2 : Int32)), .val (.int (1 : Int32)), .val (.int xb)] [(.int (255 : Int32)), (.int xb)]))
  have hc20_9 : ¬ ((255 : Int32) < xb) := by exact own_le255 (by assumption)
  refine Comes.st (fun t k => XS.icmpYes X4.here hx rfl (pc0 := 20) (pc' := 26) rfl (hb hby d6_20) rfl (flt hc20_9).2.2.2 (by decide) (by decide) (XS.aloadN X4.here hx rfl (hb hby d6_26) rfl rfl (XS.iloadN X4.here hx rfl (hb hby d6_27) rfl (XS.iload X4.here hx rfl (hb hby d6_28) rfl (XS.i2b X4.here hx rfl (hb hby d6_30) rfl k))))) ?_
  show Comes p e below _ (T4.setTop (mkF m 31 #[.val (.ref sr), .val (.int (1 : Int32)), .val (.ref ds), .val (.int (1 : Int32)), .val (.int (2 : Int32)), .val (.int (1 : Int32)), .val (.int xb)] [(.int (xb.toInt8.toInt32)), (.int (1 : Int32)), (.ref ds)]))
  obtain ⟨cl10, Ar10, q10, S10, Ng10, H10, Gf10⟩ := id V4
  have hin10 : ¬ ((1 : Int32) < 0 ∨ cl10.slots.size ≤ ((1 : Int32)).toNatClampNeg) := inb_of S10 ⟨by decide, by decide⟩
  obtain ⟨T10, h10, X10, e10, W10, st10⟩ := stB X4 hx hZ e4 Ar10 (j := (1 : Int32)) hin10 (g := (mkF m 31 #[.val (.ref sr), .val (.int (1 : Int32)), .val (.ref ds), .val (.int (1 : Int32)), .val (.int (2 : Int32)), .val (.int (1 : Int32)), .val (.int xb)] [(.int (xb.toInt8.toInt32)), (.int (1 : Int32)), (.ref ds)])) rfl rfl (hb hby d6_31)
  have V10 : Arv Z h10 ds kd .byte (2 : Int32) [(.int (nar .byte (xa.toInt8.toInt32))), (.int (nar .byte (xb.toInt8.toInt32)))] (.int (0 : Int32)) := Arv.set Ar10 q10 S10 Ng10 H10 Gf10 (fits_nar_byte _) W10 1 rfl (Nat.le_of_ble_eq_true rfl)
  have z10 : h10.size = h4.size := W10.size
  have N10 := Fr.snoc X10 N4 gn5
  have K10 : Keep h0 h10 [ds] := K4.wr W10 (Or.inl (List.mem_of_getElem? (i := 0) rfl))
  refine Comes.st st10 ?_
  show Comes p e below _ (T10.setTop (mkF m 32 #[.val (.ref sr), .val (.int (1 : Int32)), .val (.ref ds), .val (.int (1 : Int32)), .val (.int (2 : Int32)), .val (.int (1 : Int32)), .val (.int xb)] []))
  refine Comes.st (fun t k => XS.iinc X10.here hx rfl (hb hby d6_32) rfl (l' := #[.val (.ref sr), .val (.int (2 : Int32)), .val (.ref ds), .val (.int (1 : Int32)), .val (.int (2 : Int32)), .val (.int (1 : Int32)), .val (.int xb)]) rfl (XS.iinc X10.here hx rfl (hb hby d6_35) rfl (l' := #[.val (.ref sr), .val (.int (2 : Int32)), .val (.ref ds), .val (.int (2 : Int32)), .val (.int (2 : Int32)), .val (.int (1 : Int32)), .val (.int xb)]) rfl (XS.iinc X10.here hx rfl (hb hby d6_38) rfl (l' := #[.val (.ref sr), .val (.int (2 : Int32)), .val (.ref ds), .val (.int (2 : Int32)), .val (.int (2 : Int32)), .val (.int (2 : Int32)), .val (.int xb)]) rfl (XS.goto X10.here hx rfl (pc0 := 41) (pc' := 3) rfl (hb hby d6_41) (by decide) (by decide) (XS.iload X10.here hx rfl (hb hby d6_3) rfl (XS.iload X10.here hx rfl (hb hby d6_5) rfl k)))))) ?_
  show Comes p e below _ (T10.setTop (mkF m 7 #[.val (.ref sr), .val (.int (2 : Int32)), .val (.ref ds), .val (.int (2 : Int32)), .val (.int (2 : Int32)), .val (.int (2 : Int32)), .val (.int xb)] [(.int (2 : Int32)), (.int (2 : Int32))]))
  have hc7_11 : ¬ ((2 : Int32) < (2 : Int32)) := by decide
  refine Comes.st (fun t k => XS.icmpYes X10.here hx rfl (pc0 := 7) (pc' := 44) rfl (hb hby d6_7) rfl (flt hc7_11).2.1 (by decide) (by decide) (XS.iload X10.here hx rfl (hb hby d6_44) rfl k)) ?_
  show Comes p e below _ (T10.setTop (mkF m 46 #[.val (.ref sr), .val (.int (2 : Int32)), .val (.ref ds), .val (.int (2 : Int32)), .val (.int (2 : Int32)), .val (.int (2 : Int32)), .val (.int xb)] [(.int (2 : Int32))]))
  exact Comes.retV X10 hx Bd.returns rfl (Or.inl ⟨rfl, Or.inl rfl, _, rfl⟩) hlk (hb hby d6_46) e10 ⟨rfl, N10, K10, V10⟩ (by decide) (by decide)
def Q_cou2 (Z : State) (sr : Nat) (ks : ClassId) (xa xb : Int32) (h0 : Heap) (n0 : Nat) (v_ : Option Value) (h : Heap) (L_ : List Loc) : Prop := ∃ (vb : Nat), ∃ (kb : ClassId), (v_ = some (.ref vb)) ∧ (Fr n0 L_) ∧ (Keep h0 h []) ∧ (Arv Z h vb kb .byte (2 : Int32) [(.int (nar .byte (xa.toInt8.toInt32))), (.int (nar .byte (xb.toInt8.toInt32)))] (.int (0 : Int32))) ∧ (h0.size ≤ vb)
set_option maxRecDepth 65536 in
set_option maxHeartbeats 40000000 in
theorem cou2 (l : Launch) (Z : State) (a0 : Array Value) (hw : ∀ d ∈ tables_1, d.before a0 Z = true) (ws : List Jvm.Cond) (sr : Nat) (ks : ClassId) (xa xb : Int32) (h0 : Heap) (n0 : Nat) (Z0 : n0 ≤ h0.size) (G0 : Arv Z h0 sr ks .char (2 : Int32) [(.int xa), (.int xb)] (.int (0 : Int32))) (G1 : 0 ≤ xa.toInt ∧ xa.toInt ≤ 255) (G2 : 0 ≤ xb.toInt ∧ xb.toInt ≤ 255) :
    MetFree l (⟨"java/lang/StringUTF16", "compress", "([CII)[B"⟩ : MethodName) (head1 (Jvm.Cond.code (⟨"java/lang/StringUTF16", "compress", "([CII)[B"⟩ : MethodName) jdk_52_method_16_code 6 (some (.array .byte)) :: ws) ({ frames := 1, cells := 1, slots := 2, locals := 18 } : Room)) (fun a_ U_ => a_ = #[(.ref sr), (.int (0 : Int32)), (.int (2 : Int32))] ∧ Z.Warmed39 U_.vm ∧ U_.heap = h0) (fun _ _ _ _ _ => True) (fun _ U_ o_ V_ => ∃ v_ L_, o_ = .returned v_ ∧ Q_cou2 Z sr ks xa xb h0 n0 v_ V_.heap L_ ∧ FrameEnd U_ o_ V_ L_ ({ frames := 1, cells := 1, slots := 2, locals := 18 } : Room).cells ({ frames := 1, cells := 1, slots := 2, locals := 18 } : Room).slots) := by
  refine MetFree.of_bodySF (plainFor_of_name pn_5) hisR ?_
  intro p e s m args below meth c s₁ Bd hml0 hP hK
  obtain ⟨rfl, hZ, hh⟩ := hP
  have hx := Bd.exec
  have hby := Bd.bytes
  have hml : c.maxLocals = 6 := hml0
  have hown : s.vm.findClass "java/lang/StringUTF16" = some m.cls := findClass_of_methodNamed Bd.named
  have hnm := (name_of_methodNamed Bd.named Bd.method).1
  have hlk : meth.locks = false := Bd.notSynchronized
  have X0 : Stand p l e ({ frames := 1, cells := 1, slots := 2, locals := 18 } : Room) s m #[(.ref sr), (.int (0 : Int32)), (.int (2 : Int32))] below meth c s₁ [] 0 0 := Stand.of_body Bd
  have e0 : s₁.heap = h0 := by rw [← hh, Bd.state]; rfl
  have N0 := Fr.nil n0
  have K0 := Keep.refl h0 []
  refine Comes.out (Q := Q_cou2 Z sr ks xa xb h0 n0) (kc := ({ frames := 1, cells := 1, slots := 2, locals := 18 } : Room).cells) (ks := ({ frames := 1, cells := 1, slots := 2, locals := 18 } : Room).slots) ?_
  refine Comes.cast (ef_cou2 m sr) ?_
  have lt_sr : sr < h0.size := G0.lt
  show Comes p e below _ (s₁.setTop (mkF m 0 #[.val (.ref sr), .val (.int (0 : Int32)), .val (.int (2 : Int32)), .unset, .unset, .unset] []))
  refine Comes.st (fun t k => XS.iloadN X0.here hx rfl (hb hby d5_0) rfl k) ?_
  show Comes p e below _ (s₁.setTop (mkF m 1 #[.val (.ref sr), .val (.int (0 : Int32)), .val (.int (2 : Int32)), .unset, .unset, .unset] [(.int (2 : Int32))]))
  obtain ⟨T1, h1, k1, X1, e1, E1, A1, st1⟩ := newP X0 hx hZ (hw _ (List.mem_of_getElem? (i := 19) rfl)) e0 (g := (mkF m 1 #[.val (.ref sr), .val (.int (0 : Int32)), .val (.int (2 : Int32)), .unset, .unset, .unset] [(.int (2 : Int32))])) rfl (hb hby d5_1) rfl (by decide) (cap := 2) (by decide) (by decide) (by decide) (by decide)
  obtain ⟨b1, g1⟩ : ∃ z, z = h0.size := ⟨_, rfl⟩
  rw [← g1] at A1 st1
  have z1 : h0.size ≤ h1.size := E1.1
  have lt1 : b1 < h1.size := A1.lt
  have V1 : Arv Z h1 b1 k1 .byte (2 : Int32) [(.int (0 : Int32)), (.int (0 : Int32))] (.int (0 : Int32)) := (Arv.new A1 (by decide)).pad (pad_rep [] (.int (0 : Int32)) 2)
  have K1 : Keep h0 h1 [] := K0.ext E1
  refine Comes.st st1 ?_
  show Comes p e below _ (T1.setTop (mkF m 3 #[.val (.ref sr), .val (.int (0 : Int32)), .val (.int (2 : Int32)), .unset, .unset, .unset] [(.ref b1)]))
  refine Comes.st (fun t k => XS.astoreN X1.here hx rfl (hb hby d5_3) rfl rfl (l' := #[.val (.ref sr), .val (.int (0 : Int32)), .val (.int (2 : Int32)), .val (.ref b1), .unset, .unset]) rfl (XS.aloadN X1.here hx rfl (hb hby d5_4) rfl rfl (XS.iloadN X1.here hx rfl (hb hby d5_5) rfl (XS.aloadN X1.here hx rfl (hb hby d5_6) rfl rfl (XS.iconst X1.here hx rfl (hb hby d5_7) (XS.iloadN X1.here hx rfl (hb hby d5_8) rfl k)))))) ?_
  show Comes p e below _ (T1.setTop (mkF m 9 #[.val (.ref sr), .val (.int (0 : Int32)), .val (.int (2 : Int32)), .val (.ref b1), .unset, .unset] [(.int (2 : Int32)), (.int (0 : Int32)), (.ref b1), (.int (0 : Int32)), (.ref sr)]))
  have F2 : Arv Z h1 sr ks .char (2 : Int32) [(.int xa), (.int xb)] (.int (0 : Int32)) := (G0.ext E1)
  have ne3 : sr ≠ b1 := by omega
  obtain ⟨_, _, ⟨T4, L4, k4, n4⟩, -, X4, ⟨Lc4, hQ4, l4, y4, z4⟩, st4⟩ := Jvm.LawKit.callS X1 hx (y := (⟨"java/lang/StringUTF16", "compress", "([CI[BII)I"⟩ : MethodName)) hown (mvT hZ (hw _ (List.mem_of_getElem? (i := 31) rfl))) (mvT hZ (hw _ (List.mem_of_getElem? (i := 32) rfl))) (mvT hZ (hw _ (List.mem_of_getElem? (i := 29) rfl))) (mvT hZ (hw _ (List.mem_of_getElem? (i := 33) rfl))) (by decide) (backOf (W := 0) (cin2 l Z a0 hw [] sr b1 ks k1 xa xb h1 n0 (by omega)  F2 V1 ne3 (by omega) (by assumption) (by assumption)) hZ (hw _ (List.mem_of_getElem? (i := 33) rfl)) (hw _ (List.mem_of_getElem? (i := 29) rfl)) (by decide) (by decide)) (g := (mkF m 9 #[.val (.ref sr), .val (.int (0 : Int32)), .val (.int (2 : Int32)), .val (.ref b1), .unset, .unset] [(.int (2 : Int32)), (.int (0 : Int32)), (.ref b1), (.int (0 : Int32)), (.ref sr)])) rfl (by rw [hml]; rfl) (argsL := [(.ref sr), (.int (0 : Int32)), (.ref b1), (.int (0 : Int32)), (.int (2 : Int32))]) (rest := []) (lenOf pd_0 rfl) rfl (by show 2 * 0 + _ ≤ _; exact Nat.le_of_eq rfl) (hb hby d5_9) (fun _ _ => ⟨rfl, e1, (by decide : 1 + 0 ≤ _), (by decide : 2 + 0 ≤ _)⟩)
  dsimp only [Pt.U, Pt.locs, Pt.cells, Pt.slots] at X4 l4 y4 z4 st4 hQ4
  subst l4 y4 z4
  obtain ⟨rfl, Nq4, Kq4, P4_0⟩ := hQ4
  have N4 := Fr.app N0 Nq4
  have z4k : h1.size ≤ T4.heap.size := Kq4.1
  have gz5 : h0.size ≤ b1 := by omega
  have K4 : Keep h0 T4.heap [] := K1.trans Kq4 (allS (Or.inr gz5) all0)
  refine Comes.st st4 ?_
  have lt_6 : b1 < T4.heap.size := P4_0.lt
  show Comes p e below _ (T4.setTop (mkF m 12 #[.val (.ref sr), .val (.int (0 : Int32)), .val (.int (2 : Int32)), .val (.ref b1), .unset, .unset] [(.int (2 : Int32))]))
  refine Comes.st (fun t k => XS.istore X4.here hx rfl (hb hby d5_12) rfl (l' := #[.val (.ref sr), .val (.int (0 : Int32)), .val (.int (2 : Int32)), .val (.ref b1), .val (.int (2 : Int32)), .unset]) rfl (XS.iload X4.here hx rfl (hb hby d5_14) rfl (XS.iloadN X4.here hx rfl (hb hby d5_16) rfl k))) ?_
  show Comes p e below _ (T4.setTop (mkF m 17 #[.val (.ref sr), .val (.int (0 : Int32)), .val (.int (2 : Int32)), .val (.ref b1), .val (.int (2 : Int32)), .unset] [(.int (2 : Int32)), (.int (2 : Int32))]))
  have hc17_7 : (2 : Int32) = (2 : Int32) := by decide
  refine Comes.st (fun t k => XS.icmpYes X4.here hx rfl (pc0 := 17) (pc' := 57) rfl (hb hby d5_17) rfl (teq hc17_7).1 (by decide) (by decide) (XS.aloadN X4.here hx rfl (hb hby d5_57) rfl rfl k)) ?_
  show Comes p e below _ (T4.setTop (mkF m 58 #[.val (.ref sr), .val (.int (0 : Int32)), .val (.int (2 : Int32)), .val (.ref b1), .val (.int (2 : Int32)), .unset] [(.ref b1)]))
  exact Comes.retV X4 hx Bd.returns (narrow_ref rfl) (Or.inr (Or.inr (Or.inr (Or.inr ⟨rfl, rfl, rfl⟩)))) hlk (hb hby d5_58) rfl ⟨b1, k1, rfl, N4, K4, P4_0, (by omega)⟩ (by decide) (by decide)
def Q_cod2 (Z : State) (ar : Nat) (ka : ClassId) (xa xb : Int32) (h0 : Heap) (n0 : Nat) (v_ : Option Value) (h : Heap) (L_ : List Loc) : Prop := (v_ = some (.int (0 : Int32))) ∧ (Fr n0 L_) ∧ (h = h0)
set_option maxRecDepth 65536 in
set_option maxHeartbeats 40000000 in
theorem cod2 (l : Launch) (Z : State) (a0 : Array Value) (hw : ∀ d ∈ tables_1, d.before a0 Z = true) (ws : List Jvm.Cond) (ar : Nat) (ka : ClassId) (xa xb : Int32) (h0 : Heap) (n0 : Nat) (Z0 : n0 ≤ h0.size) (G0 : Arv Z h0 ar ka .byte (2 : Int32) [(.int xa), (.int xb)] (.int (0 : Int32))) :
    MetFree l (⟨"java/lang/StringUTF16", "coderFromArrayLen", "([BI)B"⟩ : MethodName) (head1 (Jvm.Cond.code (⟨"java/lang/StringUTF16", "coderFromArrayLen", "([BI)B"⟩ : MethodName) jdk_52_method_15_code 2 (some .byte) :: ws) ({ frames := 0, cells := 0, slots := 0, locals := 0 } : Room)) (fun a_ U_ => a_ = #[(.ref ar), (.int (2 : Int32))] ∧ Z.Warmed39 U_.vm ∧ U_.heap = h0) (fun _ _ _ _ _ => True) (fun _ U_ o_ V_ => ∃ v_ L_, o_ = .returned v_ ∧ Q_cod2 Z ar ka xa xb h0 n0 v_ V_.heap L_ ∧ FrameEnd U_ o_ V_ L_ ({ frames := 0, cells := 0, slots := 0, locals := 0 } : Room).cells ({ frames := 0, cells := 0, slots := 0, locals := 0 } : Room).slots) := by
  refine MetFree.of_bodySF (plainFor_of_name pn_7) hisR ?_
  intro p e s m args below meth c s₁ Bd hml0 hP hK
  obtain ⟨rfl, hZ, hh⟩ := hP
  have hx := Bd.exec
  have hby := Bd.bytes
  have hml : c.maxLocals = 2 := hml0
  have hown : s.vm.findClass "java/lang/StringUTF16" = some m.cls := findClass_of_methodNamed Bd.named
  have hnm := (name_of_methodNamed Bd.named Bd.method).1
  have hlk : meth.locks = false := Bd.notSynchronized
  have X0 : Stand p l e ({ frames := 0, cells := 0, slots := 0, locals := 0 } : Room) s m #[(.ref ar), (.int (2 : Int32))] below meth c s₁ [] 0 0 := Stand.of_body Bd
  have e0 : s₁.heap = h0 := by rw [← hh, Bd.state]; rfl
  have N0 := Fr.nil n0
  refine Comes.out (Q := Q_cod2 Z ar ka xa xb h0 n0) (kc := ({ frames := 0, cells := 0, slots := 0, locals := 0 } : Room).cells) (ks := ({ frames := 0, cells := 0, slots := 0, locals := 0 } : Room).slots) ?_
  refine Comes.cast (ef_cod2 m ar) ?_
  have lt_ar : ar < h0.size := G0.lt
  show Comes p e below _ (s₁.setTop (mkF m 0 #[.val (.ref ar), .val (.int (2 : Int32))] []))
  refine Comes.st (fun t k => XS.iloadN X0.here hx rfl (hb hby d7_0) rfl (XS.aloadN X0.here hx rfl (hb hby d7_1) rfl rfl k)) ?_
  show Comes p e below _ (s₁.setTop (mkF m 2 #[.val (.ref ar), .val (.int (2 : Int32))] [(.ref ar), (.int (2 : Int32))]))
  obtain ⟨cl1, Ar1, -, S1, Ng1, -, -⟩ := id G0
  refine Comes.st (fun t k => X0.arraylength hx (by rw [e0]; exact Ar1.1) (State.isArrayOf_alike hZ.alike Ar1.2.1) (g := (mkF m 2 #[.val (.ref ar), .val (.int (2 : Int32))] [(.ref ar), (.int (2 : Int32))])) rfl rfl (hb hby d7_2) _ k) ?_
  rw [len_of S1 Ng1]
  show Comes p e below _ (s₁.setTop (mkF m 3 #[.val (.ref ar), .val (.int (2 : Int32))] [(.int (2 : Int32)), (.int (2 : Int32))]))
  refine Comes.st (fun t k => XS.isub X0.here hx rfl (hb hby d7_3) rfl k) ?_
  show Comes p e below _ (s₁.setTop (mkF m 4 #[.val (.ref ar), .val (.int (2 : Int32))] [(.int ((2 : Int32) - (2 : Int32)))]))
  rw [show ((2 : Int32) - (2 : Int32)) = (0 : Int32) from by decide]
  show Comes p e below _ (s₁.setTop (mkF m 4 #[.val (.ref ar), .val (.int (2 : Int32))] [(.int (0 : Int32))]))
  refine Comes.st (fun t k => XS.bipush X0.here hx rfl (hb hby d7_4) (XS.iushr X0.here hx rfl (hb hby d7_6) rfl k)) ?_
  show Comes p e below _ (s₁.setTop (mkF m 7 #[.val (.ref ar), .val (.int (2 : Int32))] [(.int (((0 : Int32).toUInt32 >>> ((31 : Int32) &&& 31).toUInt32).toInt32))]))
  rw [show (((0 : Int32).toUInt32 >>> ((31 : Int32) &&& 31).toUInt32).toInt32) = (0 : Int32) from by decide]
  show Comes p e below _ (s₁.setTop (mkF m 7 #[.val (.ref ar), .val (.int (2 : Int32))] [(.int (0 : Int32))]))
  refine Comes.st (fun t k => XS.i2b X0.here hx rfl (hb hby d7_7) rfl k) ?_
  show Comes p e below _ (s₁.setTop (mkF m 8 #[.val (.ref ar), .val (.int (2 : Int32))] [(.int ((0 : Int32).toInt8.toInt32))]))
  exact Comes.retN X0 hx (t := .byte) Bd.returns (by simp) hlk (hb hby d7_8) e0 ⟨rfl, N0, rfl⟩ (by decide) (by decide)
def Q_sin2 (Z : State) (ea sr : Nat) (ks : ClassId) (cs xa xb : Int32) (h0 : Heap) (n0 : Nat) (v_ : Option Value) (h : Heap) (L_ : List Loc) : Prop := ∃ (vb : Nat), ∃ (kb : ClassId), (v_ = none) ∧ (Fr n0 L_) ∧ (Keep h0 h [ea]) ∧ (Exa Z h ea "java/lang/String") ∧ (Fld Z h ea "java/lang/String" "value" "[B" (.ref vb)) ∧ (Fld Z h ea "java/lang/String" "coder" "B" (.int (0 : Int32))) ∧ (Arv Z h vb kb .byte (2 : Int32) [(.int (nar .byte (xa.toInt8.toInt32))), (.int (nar .byte (xb.toInt8.toInt32)))] (.int (0 : Int32)))
set_option maxRecDepth 65536 in
set_option maxHeartbeats 40000000 in
theorem sin2 (l : Launch) (Z : State) (a0 : Array Value) (hw : ∀ d ∈ tables_1, d.before a0 Z = true) (ws : List Jvm.Cond) (ea sr : Nat) (ks : ClassId) (cs xa xb : Int32) (h0 : Heap) (n0 : Nat) (Z0 : n0 ≤ h0.size) (G0 : Exa Z h0 ea "java/lang/String") (G1 : Fld Z h0 ea "java/lang/String" "value" "[B" .null) (G2 : Fld Z h0 ea "java/lang/String" "coder" "B" (.int (0 : Int32))) (G3 : Arv Z h0 sr ks .char (2 : Int32) [(.int xa), (.int xb)] (.int (0 : Int32))) (G4 : sr ≠ ea) (G5 : n0 ≤ ea) (G6 : Sta Z Z.heap "java/lang/String" "COMPACT_STRINGS" "Z" (.int cs)) (G7 : ¬ (cs = (0 : Int32))) (G8 : Old Z n0 h0) (G9 : 0 ≤ xa.toInt ∧ xa.toInt ≤ 255) (G10 : 0 ≤ xb.toInt ∧ xb.toInt ≤ 255) :
    MetFree l (⟨"java/lang/String", "<init>", "([CIILjava/lang/Void;)V"⟩ : MethodName) (head1 (Jvm.Cond.code (⟨"java/lang/String", "<init>", "([CIILjava/lang/Void;)V"⟩ : MethodName) jdk_42_method_149_code 6 none :: ws) ({ frames := 2, cells := 1, slots := 2, locals := 35 } : Room)) (fun a_ U_ => a_ = #[(.ref ea), (.ref sr), (.int (0 : Int32)), (.int (2 : Int32)), .null] ∧ Z.Warmed39 U_.vm ∧ U_.heap = h0) (fun _ _ _ _ _ => True) (fun _ U_ o_ V_ => ∃ v_ L_, o_ = .returned v_ ∧ Q_sin2 Z ea sr ks cs xa xb h0 n0 v_ V_.heap L_ ∧ FrameEnd U_ o_ V_ L_ ({ frames := 2, cells := 1, slots := 2, locals := 35 } : Room).cells ({ frames := 2, cells := 1, slots := 2, locals := 35 } : Room).slots) := by
  refine MetFree.of_bodySF (plainFor_of_name pn_3) hisR ?_
  intro p e s m args below meth c s₁ Bd hml0 hP hK
  obtain ⟨rfl, hZ, hh⟩ := hP
  have hx := Bd.exec
  have hby := Bd.bytes
  have hml : c.maxLocals = 6 := hml0
  have hown : s.vm.findClass "java/lang/String" = some m.cls := findClass_of_methodNamed Bd.named
  have hnm := (name_of_methodNamed Bd.named Bd.method).1
  have hlk : meth.locks = false := Bd.notSynchronized
  have X0 : Stand p l e ({ frames := 2, cells := 1, slots := 2, locals := 35 } : Room) s m #[(.ref ea), (.ref sr), (.int (0 : Int32)), (.int (2 : Int32)), .null] below meth c s₁ [] 0 0 := Stand.of_body Bd
  have e0 : s₁.heap = h0 := by rw [← hh, Bd.state]; rfl
  have N0 := Fr.nil n0
  have K0 := Keep.refl h0 [ea]
  refine Comes.out (Q := Q_sin2 Z ea sr ks cs xa xb h0 n0) (kc := ({ frames := 2, cells := 1, slots := 2, locals := 35 } : Room).cells) (ks := ({ frames := 2, cells := 1, slots := 2, locals := 35 } : Room).slots) ?_
  refine Comes.cast (ef_sin2 m ea sr) ?_
  have lt_ea : ea < h0.size := G0.lt
  have lt_sr : sr < h0.size := G3.lt
  show Comes p e below _ (s₁.setTop (mkF m 0 #[.val (.ref ea), .val (.ref sr), .val (.int (0 : Int32)), .val (.int (2 : Int32)), .val .null, .unset] []))
  refine Comes.st (fun t k => XS.aloadN X0.here hx rfl (hb hby d3_0) rfl rfl k) ?_
  show Comes p e below _ (s₁.setTop (mkF m 1 #[.val (.ref ea), .val (.ref sr), .val (.int (0 : Int32)), .val (.int (2 : Int32)), .val .null, .unset] [(.ref ea)]))
  obtain ⟨T1, X1, e1, st1⟩ := initO X0 hx hZ hown (hw _ (List.mem_of_getElem? (i := 15) rfl)) (hw _ (List.mem_of_getElem? (i := 16) rfl)) (hw _ (List.mem_of_getElem? (i := 17) rfl)) e0 (g := (mkF m 1 #[.val (.ref ea), .val (.ref sr), .val (.int (0 : Int32)), .val (.int (2 : Int32)), .val .null, .unset] [(.ref ea)])) rfl (by rw [hml]; rfl) rfl (hb hby d3_1) (by decide) (W := 0) (by show 2 * 0 + _ ≤ _; exact Nat.le_of_eq rfl) (by decide)
  refine Comes.st st1 ?_
  show Comes p e below _ (T1.setTop (mkF m 4 #[.val (.ref ea), .val (.ref sr), .val (.int (0 : Int32)), .val (.int (2 : Int32)), .val .null, .unset] []))
  refine Comes.st (fun t k => XS.iloadN X1.here hx rfl (hb hby d3_4) rfl k) ?_
  show Comes p e below _ (T1.setTop (mkF m 5 #[.val (.ref ea), .val (.ref sr), .val (.int (0 : Int32)), .val (.int (2 : Int32)), .val .null, .unset] [(.int (2 : Int32))]))
  have hc5_2 : ¬ ((2 : Int32) = (0 : Int32)) := by decide
  refine Comes.st (fun t k => XS.ifYes X1.here hx rfl (pc0 := 5) (pc' := 27) rfl (hb hby d3_5) rfl ((if0 _ _).trans (feq hc5_2).2) (by decide) (by decide) k) ?_
  show Comes p e below _ (T1.setTop (mkF m 27 #[.val (.ref ea), .val (.ref sr), .val (.int (0 : Int32)), .val (.int (2 : Int32)), .val .null, .unset] []))
  obtain ⟨T3, X3, e3, st3⟩ := getS2 X1 hx hZ hown (host := "") (Or.inl (hw _ (List.mem_of_getElem? (i := 26) rfl))) Via.refl e1 (G6.ext G8.2) (g := (mkF m 27 #[.val (.ref ea), .val (.ref sr), .val (.int (0 : Int32)), .val (.int (2 : Int32)), .val .null, .unset] [])) rfl (hb hby d3_27)
  refine Comes.st st3 ?_
  show Comes p e below _ (T3.setTop (mkF m 30 #[.val (.ref ea), .val (.ref sr), .val (.int (0 : Int32)), .val (.int (2 : Int32)), .val .null, .unset] [(.int cs)]))
  have hc30_4 : ¬ (cs = (0 : Int32)) := by assumption
  refine Comes.st (fun t k => XS.ifNo X3.here hx rfl (hb hby d3_30) rfl ((if0 _ _).trans (feq hc30_4).1) (XS.aloadN X3.here hx rfl (hb hby d3_33) rfl rfl (XS.iloadN X3.here hx rfl (hb hby d3_34) rfl (XS.iloadN X3.here hx rfl (hb hby d3_35) rfl k)))) ?_
  show Comes p e below _ (T3.setTop (mkF m 36 #[.val (.ref ea), .val (.ref sr), .val (.int (0 : Int32)), .val (.int (2 : Int32)), .val .null, .unset] [(.int (2 : Int32)), (.int (0 : Int32)), (.ref sr)]))
  obtain ⟨_, _, ⟨T5, L5, k5, n5⟩, -, X5, ⟨Lc5, hQ5, l5, y5, z5⟩, st5⟩ := Jvm.LawKit.callS X3 hx (y := (⟨"java/lang/StringUTF16", "compress", "([CII)[B"⟩ : MethodName)) hown (mvT hZ (hw _ (List.mem_of_getElem? (i := 27) rfl))) (mvT hZ (hw _ (List.mem_of_getElem? (i := 28) rfl))) (mvT hZ (hw _ (List.mem_of_getElem? (i := 29) rfl))) (mvT hZ (hw _ (List.mem_of_getElem? (i := 30) rfl))) (by decide) (backOf (W := 0) (cou2 l Z a0 hw [] sr ks xa xb h0 n0 (by omega)  G3 (by assumption) (by assumption)) hZ (hw _ (List.mem_of_getElem? (i := 30) rfl)) (hw _ (List.mem_of_getElem? (i := 29) rfl)) (by decide) (by decide)) (g := (mkF m 36 #[.val (.ref ea), .val (.ref sr), .val (.int (0 : Int32)), .val (.int (2 : Int32)), .val .null, .unset] [(.int (2 : Int32)), (.int (0 : Int32)), (.ref sr)])) rfl (by rw [hml]; rfl) (argsL := [(.ref sr), (.int (0 : Int32)), (.int (2 : Int32))]) (rest := []) (lenOf pd_1 rfl) rfl (by show 2 * 0 + _ ≤ _; exact Nat.le_of_eq rfl) (hb hby d3_36) (fun _ _ => ⟨rfl, e3, (by decide : 0 + 1 ≤ _), (by decide : 0 + 2 ≤ _)⟩)
  dsimp only [Pt.U, Pt.locs, Pt.cells, Pt.slots] at X5 l5 y5 z5 st5 hQ5
  subst l5 y5 z5
  obtain ⟨o6, r7, rfl, Nq5, Kq5, P5_0, P5_1⟩ := hQ5
  have N5 := Fr.app N0 Nq5
  have z5k : h0.size ≤ T5.heap.size := Kq5.1
  have K5 : Keep h0 T5.heap [ea] := K0.trans Kq5 all0
  refine Comes.st st5 ?_
  have lt_8 : o6 < T5.heap.size := P5_0.lt
  show Comes p e below _ (T5.setTop (mkF m 39 #[.val (.ref ea), .val (.ref sr), .val (.int (0 : Int32)), .val (.int (2 : Int32)), .val .null, .unset] [(.ref o6)]))
  refine Comes.st (fun t k => XS.astore X5.here hx rfl (hb hby d3_39) rfl rfl (l' := #[.val (.ref ea), .val (.ref sr), .val (.int (0 : Int32)), .val (.int (2 : Int32)), .val .null, .val (.ref o6)]) rfl (XS.aloadN X5.here hx rfl (hb hby d3_41) rfl rfl (XS.aload X5.here hx rfl (hb hby d3_42) rfl rfl (XS.iloadN X5.here hx rfl (hb hby d3_44) rfl k)))) ?_
  show Comes p e below _ (T5.setTop (mkF m 45 #[.val (.ref ea), .val (.ref sr), .val (.int (0 : Int32)), .val (.int (2 : Int32)), .val .null, .val (.ref o6)] [(.int (2 : Int32)), (.ref o6), (.ref ea)]))
  obtain ⟨_, _, ⟨T9, L9, k9, n9⟩, -, X9, ⟨Lc9, hQ9, l9, y9, z9⟩, st9⟩ := Jvm.LawKit.callS X5 hx (y := (⟨"java/lang/StringUTF16", "coderFromArrayLen", "([BI)B"⟩ : MethodName)) hown (mvT hZ (hw _ (List.mem_of_getElem? (i := 34) rfl))) (mvT hZ (hw _ (List.mem_of_getElem? (i := 35) rfl))) (mvT hZ (hw _ (List.mem_of_getElem? (i := 29) rfl))) (mvT hZ (hw _ (List.mem_of_getElem? (i := 36) rfl))) (by decide) (backOf (W := 1) (cod2 l Z a0 hw [] o6 r7 ((nar .byte (xa.toInt8.toInt32))) ((nar .byte (xb.toInt8.toInt32))) T5.heap n0 (by omega)  P5_0) hZ (hw _ (List.mem_of_getElem? (i := 36) rfl)) (hw _ (List.mem_of_getElem? (i := 29) rfl)) (by decide) (by decide)) (g := (mkF m 45 #[.val (.ref ea), .val (.ref sr), .val (.int (0 : Int32)), .val (.int (2 : Int32)), .val .null, .val (.ref o6)] [(.int (2 : Int32)), (.ref o6), (.ref ea)])) rfl (by rw [hml]; rfl) (argsL := [(.ref o6), (.int (2 : Int32))]) (rest := [(.ref ea)]) (lenOf pd_2 rfl) rfl (by show 2 * 0 + _ ≤ _; exact Nat.le_of_eq rfl) (hb hby d3_45) (fun _ _ => ⟨rfl, rfl, (by decide : 1 + 0 ≤ _), (by decide : 2 + 0 ≤ _)⟩)
  dsimp only [Pt.U, Pt.locs, Pt.cells, Pt.slots] at X9 l9 y9 z9 st9 hQ9
  subst l9 y9 z9
  obtain ⟨rfl, Nq9, hs9⟩ := hQ9
  have N9 := Fr.app N5 Nq9
  refine Comes.st st9 ?_
  show Comes p e below _ (T9.setTop (mkF m 48 #[.val (.ref ea), .val (.ref sr), .val (.int (0 : Int32)), .val (.int (2 : Int32)), .val .null, .val (.ref o6)] [(.int (0 : Int32)), (.ref ea)]))
  have F10 : Exa Z T5.heap ea "java/lang/String" := (G0.keep Kq5)
  have F11 : Fld Z T5.heap ea "java/lang/String" "coder" "B" (.int (0 : Int32)) := (G2.keep Kq5 nin0)
  obtain ⟨T12, h12, X12, e12, W12, st12⟩ := putFN X9 hx hZ hown (hw _ (List.mem_of_getElem? (i := 25) rfl)) Via.refl hs9 F11 F10 (Or.inr ⟨(hw _ (List.mem_of_getElem? (i := 21) rfl)), rfl, hnm⟩) (hw _ (List.mem_of_getElem? (i := 5) rfl)) (ty := .byte) (v' := (.int (nar .byte (0 : Int32)))) (by decide) rfl (fits_nar_byte _) (g := (mkF m 48 #[.val (.ref ea), .val (.ref sr), .val (.int (0 : Int32)), .val (.int (2 : Int32)), .val .null, .val (.ref o6)] [(.int (0 : Int32)), (.ref ea)])) rfl rfl (hb hby d3_48)
  have Fw12 := F11.same W12
  rw [show (nar .byte (0 : Int32)) = (0 : Int32) from by decide] at Fw12
  have z12 : h12.size = T5.heap.size := W12.size
  have gn13 : n0 ≤ ea := by omega
  have N12 := Fr.snoc X12 N9 gn13
  have K12 : Keep h0 h12 [ea] := K5.wr W12 (Or.inl (List.mem_of_getElem? (i := 0) rfl))
  refine Comes.st st12 ?_
  show Comes p e below _ (T12.setTop (mkF m 51 #[.val (.ref ea), .val (.ref sr), .val (.int (0 : Int32)), .val (.int (2 : Int32)), .val .null, .val (.ref o6)] []))
  refine Comes.st (fun t k => XS.aloadN X12.here hx rfl (hb hby d3_51) rfl rfl (XS.aload X12.here hx rfl (hb hby d3_52) rfl rfl k)) ?_
  show Comes p e below _ (T12.setTop (mkF m 54 #[.val (.ref ea), .val (.ref sr), .val (.int (0 : Int32)), .val (.int (2 : Int32)), .val .null, .val (.ref o6)] [(.ref o6), (.ref ea)]))
  have F14 : Exa Z h12 ea "java/lang/String" := (F10.wr W12)
  have F15 : Fld Z h12 ea "java/lang/String" "value" "[B" .null := ((G1.keep Kq5 nin0).other W12 (Or.inr (slot_ne (Or.inr (hw _ (List.mem_of_getElem? (i := 20) rfl))) (Or.inr (hw _ (List.mem_of_getElem? (i := 21) rfl))) (by decide) (t := (.array .byte)) (t' := .byte) (by decide) (by decide))))
  obtain ⟨T16, h16, X16, e16, W16, st16⟩ := putF X12 hx hZ hown (host := "") (Or.inl (hw _ (List.mem_of_getElem? (i := 24) rfl))) Via.refl e12 F15 F14 (Or.inr ⟨(hw _ (List.mem_of_getElem? (i := 20) rfl)), rfl, hnm⟩) (hw _ (List.mem_of_getElem? (i := 5) rfl)) (ty := (.array .byte)) (by decide) rfl rfl (g := (mkF m 54 #[.val (.ref ea), .val (.ref sr), .val (.int (0 : Int32)), .val (.int (2 : Int32)), .val .null, .val (.ref o6)] [(.ref o6), (.ref ea)])) rfl rfl (hb hby d3_54)
  have Fw16 := F15.same W16
  have z16 : h16.size = h12.size := W16.size
  have N16 := Fr.snoc X16 N12 gn13
  have K16 : Keep h0 h16 [ea] := K12.wr W16 (Or.inl (List.mem_of_getElem? (i := 0) rfl))
  refine Comes.st st16 ?_
  show Comes p e below _ (T16.setTop (mkF m 57 #[.val (.ref ea), .val (.ref sr), .val (.int (0 : Int32)), .val (.int (2 : Int32)), .val .null, .val (.ref o6)] []))
  have F17 : Exa Z h16 ea "java/lang/String" := (F14.wr W16)
  have F18 : Fld Z h16 ea "java/lang/String" "coder" "B" (.int (0 : Int32)) := (Fw12.other W16 (Or.inr (slot_ne (Or.inr (hw _ (List.mem_of_getElem? (i := 21) rfl))) (Or.inr (hw _ (List.mem_of_getElem? (i := 20) rfl))) (by decide) (t := .byte) (t' := (.array .byte)) (by decide) (by decide))))
  have ne19 : o6 ≠ ea := by omega
  have F20 : Arv Z h16 o6 r7 .byte (2 : Int32) [(.int (nar .byte (xa.toInt8.toInt32))), (.int (nar .byte (xb.toInt8.toInt32)))] (.int (0 : Int32)) := ((P5_0.other W12 ne19).other W16 ne19)
  exact Comes.ret0 X16 hx Bd.returns hlk (hb hby d3_57) e16 ⟨o6, r7, rfl, N16, K16, F17, Fw16, F18, F20⟩ (by decide) (by decide)
def Q_sic2 (Z : State) (ea sr : Nat) (ks : ClassId) (cs xa xb : Int32) (h0 : Heap) (n0 : Nat) (v_ : Option Value) (h : Heap) (L_ : List Loc) : Prop := ∃ (vb : Nat), ∃ (kb : ClassId), (v_ = none) ∧ (Fr n0 L_) ∧ (Keep h0 h [ea]) ∧ (Exa Z h ea "java/lang/String") ∧ (Fld Z h ea "java/lang/String" "value" "[B" (.ref vb)) ∧ (Fld Z h ea "java/lang/String" "coder" "B" (.int (0 : Int32))) ∧ (Arv Z h vb kb .byte (2 : Int32) [(.int (nar .byte (xa.toInt8.toInt32))), (.int (nar .byte (xb.toInt8.toInt32)))] (.int (0 : Int32)))
set_option maxRecDepth 65536 in
set_option maxHeartbeats 40000000 in
theorem sic2 (l : Launch) (Z : State) (a0 : Array Value) (hw : ∀ d ∈ tables_1, d.before a0 Z = true) (ws : List Jvm.Cond) (ea sr : Nat) (ks : ClassId) (cs xa xb : Int32) (h0 : Heap) (n0 : Nat) (Z0 : n0 ≤ h0.size) (G0 : Exa Z h0 ea "java/lang/String") (G1 : Fld Z h0 ea "java/lang/String" "value" "[B" .null) (G2 : Fld Z h0 ea "java/lang/String" "coder" "B" (.int (0 : Int32))) (G3 : Arv Z h0 sr ks .char (2 : Int32) [(.int xa), (.int xb)] (.int (0 : Int32))) (G4 : sr ≠ ea) (G5 : n0 ≤ ea) (G6 : Sta Z Z.heap "java/lang/String" "COMPACT_STRINGS" "Z" (.int cs)) (G7 : ¬ (cs = (0 : Int32))) (G8 : Old Z n0 h0) (G9 : 0 ≤ xa.toInt ∧ xa.toInt ≤ 255) (G10 : 0 ≤ xb.toInt ∧ xb.toInt ≤ 255) :
    MetFree l (⟨"java/lang/String", "<init>", "([C)V"⟩ : MethodName) (head1 (Jvm.Cond.code (⟨"java/lang/String", "<init>", "([C)V"⟩ : MethodName) jdk_42_method_3_code 2 none :: ws) ({ frames := 3, cells := 1, slots := 2, locals := 52 } : Room)) (fun a_ U_ => a_ = #[(.ref ea), (.ref sr)] ∧ Z.Warmed39 U_.vm ∧ U_.heap = h0) (fun _ _ _ _ _ => True) (fun _ U_ o_ V_ => ∃ v_ L_, o_ = .returned v_ ∧ Q_sic2 Z ea sr ks cs xa xb h0 n0 v_ V_.heap L_ ∧ FrameEnd U_ o_ V_ L_ ({ frames := 3, cells := 1, slots := 2, locals := 52 } : Room).cells ({ frames := 3, cells := 1, slots := 2, locals := 52 } : Room).slots) := by
  refine MetFree.of_bodySF (plainFor_of_name pn_2) hisR ?_
  intro p e s m args below meth c s₁ Bd hml0 hP hK
  obtain ⟨rfl, hZ, hh⟩ := hP
  have hx := Bd.exec
  have hby := Bd.bytes
  have hml : c.maxLocals = 2 := hml0
  have hown : s.vm.findClass "java/lang/String" = some m.cls := findClass_of_methodNamed Bd.named
  have hnm := (name_of_methodNamed Bd.named Bd.method).1
  have hlk : meth.locks = false := Bd.notSynchronized
  have X0 : Stand p l e ({ frames := 3, cells := 1, slots := 2, locals := 52 } : Room) s m #[(.ref ea), (.ref sr)] below meth c s₁ [] 0 0 := Stand.of_body Bd
  have e0 : s₁.heap = h0 := by rw [← hh, Bd.state]; rfl
  have N0 := Fr.nil n0
  have K0 := Keep.refl h0 [ea]
  refine Comes.out (Q := Q_sic2 Z ea sr ks cs xa xb h0 n0) (kc := ({ frames := 3, cells := 1, slots := 2, locals := 52 } : Room).cells) (ks := ({ frames := 3, cells := 1, slots := 2, locals := 52 } : Room).slots) ?_
  refine Comes.cast (ef_sic2 m ea sr) ?_
  have lt_ea : ea < h0.size := G0.lt
  have lt_sr : sr < h0.size := G3.lt
  show Comes p e below _ (s₁.setTop (mkF m 0 #[.val (.ref ea), .val (.ref sr)] []))
  refine Comes.st (fun t k => XS.aloadN X0.here hx rfl (hb hby d2_0) rfl rfl (XS.aloadN X0.here hx rfl (hb hby d2_1) rfl rfl (XS.iconst X0.here hx rfl (hb hby d2_2) (XS.aloadN X0.here hx rfl (hb hby d2_3) rfl rfl k)))) ?_
  show Comes p e below _ (s₁.setTop (mkF m 4 #[.val (.ref ea), .val (.ref sr)] [(.ref sr), (.int (0 : Int32)), (.ref sr), (.ref ea)]))
  obtain ⟨cl1, Ar1, -, S1, Ng1, -, -⟩ := id G3
  refine Comes.st (fun t k => X0.arraylength hx (by rw [e0]; exact Ar1.1) (State.isArrayOf_alike hZ.alike Ar1.2.1) (g := (mkF m 4 #[.val (.ref ea), .val (.ref sr)] [(.ref sr), (.int (0 : Int32)), (.ref sr), (.ref ea)])) rfl rfl (hb hby d2_4) _ k) ?_
  rw [len_of S1 Ng1]
  show Comes p e below _ (s₁.setTop (mkF m 5 #[.val (.ref ea), .val (.ref sr)] [(.int (2 : Int32)), (.int (0 : Int32)), (.ref sr), (.ref ea)]))
  refine Comes.st (fun t k => XS.aconstNull X0.here hx rfl (hb hby d2_5) k) ?_
  show Comes p e below _ (s₁.setTop (mkF m 6 #[.val (.ref ea), .val (.ref sr)] [.null, (.int (2 : Int32)), (.int (0 : Int32)), (.ref sr), (.ref ea)]))
  obtain ⟨_, _, ⟨T2, L2, k2, n2⟩, -, X2, ⟨Lc2, hQ2, l2, y2, z2⟩, st2⟩ := X0.specialBack hx (y := (⟨"java/lang/String", "<init>", "([CIILjava/lang/Void;)V"⟩ : MethodName)) rfl hown (mvT hZ (hw _ (List.mem_of_getElem? (i := 11) rfl))) (mvT hZ (hw _ (List.mem_of_getElem? (i := 12) rfl))) (mvT hZ (hw _ (List.mem_of_getElem? (i := 14) rfl))) (by decide) (backOf (W := 0) (sin2 l Z a0 hw [] ea sr ks cs xa xb h0 n0 (by omega)  G0 G1 G2 G3 G4 (by omega) G6 (by assumption) G8 (by assumption) (by assumption)) hZ (hw _ (List.mem_of_getElem? (i := 14) rfl)) (hw _ (List.mem_of_getElem? (i := 6) rfl)) (by decide) (by decide)) (g := (mkF m 6 #[.val (.ref ea), .val (.ref sr)] [.null, (.int (2 : Int32)), (.int (0 : Int32)), (.ref sr), (.ref ea)])) rfl (by rw [hml]; rfl) (Steps.refl _) (a := ea) (argsL := [(.ref sr), (.int (0 : Int32)), (.int (2 : Int32)), .null]) (rest := []) (lenOf pd_3 rfl) rfl (by show 2 * 0 + _ ≤ _; exact Nat.le_of_eq rfl) (hb hby d2_6) (fun _ _ => ⟨rfl, e0, (by decide : 0 + 1 ≤ _), (by decide : 0 + 2 ≤ _)⟩)
  dsimp only [Pt.U, Pt.locs, Pt.cells, Pt.slots] at X2 l2 y2 z2 st2 hQ2
  subst l2 y2 z2
  obtain ⟨o3, r4, rfl, Nq2, Kq2, P2_0, P2_1, P2_2, P2_3⟩ := hQ2
  have N2 := Fr.app N0 Nq2
  have z2k : h0.size ≤ T2.heap.size := Kq2.1
  have K2 : Keep h0 T2.heap [ea] := K0.trans Kq2 (allS (Or.inl (List.mem_of_getElem? (i := 0) rfl)) all0)
  refine Comes.go st2 ?_
  have lt_5 : o3 < T2.heap.size := P2_3.lt
  show Comes p e below _ (T2.setTop (mkF m 9 #[.val (.ref ea), .val (.ref sr)] []))
  exact Comes.ret0 X2 hx Bd.returns hlk (hb hby d2_9) rfl ⟨o3, r4, rfl, N2, K2, P2_0, P2_1, P2_2, P2_3⟩ (by decide) (by decide)
def Q_mk2 (Z : State) (xa xb xc cs : Int32) (h0 : Heap) (n0 : Nat) (v_ : Option Value) (h : Heap) (L_ : List Loc) : Prop := ∃ (r : Nat), ∃ (vb : Nat), ∃ (kb : ClassId), (v_ = some (.ref r)) ∧ (Fr n0 L_) ∧ (Keep h0 h []) ∧ (Exa Z h r "java/lang/String") ∧ (Fld Z h r "java/lang/String" "value" "[B" (.ref vb)) ∧ (Fld Z h r "java/lang/String" "coder" "B" (.int (0 : Int32))) ∧ (Arv Z h vb kb .byte (2 : Int32) [(.int (nar .byte ((nar .char xa).toInt8.toInt32))), (.int (nar .byte ((nar .char xb).toInt8.toInt32)))] (.int (0 : Int32))) ∧ (h0.size ≤ r)
set_option maxRecDepth 65536 in
set_option maxHeartbeats 40000000 in
theorem mk2 (l : Launch) (Z : State) (a0 : Array Value) (hw : ∀ d ∈ tables_1, d.before a0 Z = true) (ws : List Jvm.Cond) (xa xb xc cs : Int32) (h0 : Heap) (n0 : Nat) (Z0 : n0 ≤ h0.size) (G0 : Sta Z Z.heap "java/lang/String" "COMPACT_STRINGS" "Z" (.int cs)) (G1 : ¬ (cs = (0 : Int32))) (G2 : Old Z n0 h0) (G3 : 0 ≤ xa.toInt ∧ xa.toInt ≤ 255) (G4 : 0 ≤ xb.toInt ∧ xb.toInt ≤ 255) (G5 : 0 ≤ xc.toInt ∧ xc.toInt ≤ 255) :
    MetFree l (⟨"com/example/soft_throttle/softthrottle/usage/RequestCountEqualsPinLaw", "mk", "(ICCC)Ljava/lang/String;"⟩ : MethodName) (head1 (Jvm.Cond.code (⟨"com/example/soft_throttle/softthrottle/usage/RequestCountEqualsPinLaw", "mk", "(ICCC)Ljava/lang/String;"⟩ : MethodName) method_2_code 4 (some (.object "java/lang/String")) :: ws) ({ frames := 4, cells := 6, slots := 12, locals := 66 } : Room)) (fun a_ U_ => a_ = #[(.int (2 : Int32)), (.int xa), (.int xb), (.int xc)] ∧ Z.Warmed39 U_.vm ∧ U_.heap = h0) (fun _ _ _ _ _ => True) (fun _ U_ o_ V_ => ∃ v_ L_, o_ = .returned v_ ∧ Q_mk2 Z xa xb xc cs h0 n0 v_ V_.heap L_ ∧ FrameEnd U_ o_ V_ L_ ({ frames := 4, cells := 6, slots := 12, locals := 66 } : Room).cells ({ frames := 4, cells := 6, slots := 12, locals := 66 } : Room).slots) := by
  refine MetFree.of_bodySF (plainFor_of_name pn_1) hisR ?_
  intro p e s m args below meth c s₁ Bd hml0 hP hK
  obtain ⟨rfl, hZ, hh⟩ := hP
  have hx := Bd.exec
  have hby := Bd.bytes
  have hml : c.maxLocals = 4 := hml0
  have hown : s.vm.findClass "com/example/soft_throttle/softthrottle/usage/RequestCountEqualsPinLaw" = some m.cls := findClass_of_methodNamed Bd.named
  have hnm := (name_of_methodNamed Bd.named Bd.method).1
  have hlk : meth.locks = false := Bd.notSynchronized
  have X0 : Stand p l e ({ frames := 4, cells := 6, slots := 12, locals := 66 } : Room) s m #[(.int (2 : Int32)), (.int xa), (.int xb), (.int xc)] below meth c s₁ [] 0 0 := Stand.of_body Bd
  have e0 : s₁.heap = h0 := by rw [← hh, Bd.state]; rfl
  have N0 := Fr.nil n0
  have K0 := Keep.refl h0 []
  refine Comes.out (Q := Q_mk2 Z xa xb xc cs h0 n0) (kc := ({ frames := 4, cells := 6, slots := 12, locals := 66 } : Room).cells) (ks := ({ frames := 4, cells := 6, slots := 12, locals := 66 } : Room).slots) ?_
  refine Comes.cast (ef_mk2 m xa xb xc) ?_
  show Comes p e below _ (s₁.setTop (mkF m 0 #[.val (.int (2 : Int32)), .val (.int xa), .val (.int xb), .val (.int xc)] []))
  refine Comes.st (fun t k => XS.iloadN X0.here hx rfl (hb hby d1_0) rfl k) ?_
  show Comes p e below _ (s₁.setTop (mkF m 1 #[.val (.int (2 : Int32)), .val (.int xa), .val (.int xb), .val (.int xc)] [(.int (2 : Int32))]))
  have hc1_1 : ¬ ((2 : Int32) = (0 : Int32)) := by decide
  refine Comes.st (fun t k => XS.ifYes X0.here hx rfl (pc0 := 1) (pc' := 15) rfl (hb hby d1_1) rfl ((if0 _ _).trans (feq hc1_1).2) (by decide) (by decide) (XS.iloadN X0.here hx rfl (hb hby d1_15) rfl (XS.iconst X0.here hx rfl (hb hby d1_16) k))) ?_
  show Comes p e below _ (s₁.setTop (mkF m 17 #[.val (.int (2 : Int32)), .val (.int xa), .val (.int xb), .val (.int xc)] [(.int (1 : Int32)), (.int (2 : Int32))]))
  have hc17_2 : ¬ ((2 : Int32) = (1 : Int32)) := by decide
  refine Comes.st (fun t k => XS.icmpYes X0.here hx rfl (pc0 := 17) (pc' := 35) rfl (hb hby d1_17) rfl (feq hc17_2).2 (by decide) (by decide) (XS.iloadN X0.here hx rfl (hb hby d1_35) rfl (XS.iconst X0.here hx rfl (hb hby d1_36) k))) ?_
  show Comes p e below _ (s₁.setTop (mkF m 37 #[.val (.int (2 : Int32)), .val (.int xa), .val (.int xb), .val (.int xc)] [(.int (2 : Int32)), (.int (2 : Int32))]))
  have hc37_3 : (2 : Int32) = (2 : Int32) := by decide
  refine Comes.st (fun t k => XS.icmpNo X0.here hx rfl (hb hby d1_37) rfl (teq hc37_3).2 k) ?_
  show Comes p e below _ (s₁.setTop (mkF m 40 #[.val (.int (2 : Int32)), .val (.int xa), .val (.int xb), .val (.int xc)] []))
  obtain ⟨T4, h4, X4, e4, E4, A4, D4, -, st4⟩ := newO X0 hx hZ hown (hw _ (List.mem_of_getElem? (i := 4) rfl)) (hw _ (List.mem_of_getElem? (i := 5) rfl)) (hw _ (List.mem_of_getElem? (i := 6) rfl)) e0 (g := (mkF m 40 #[.val (.int (2 : Int32)), .val (.int xa), .val (.int xb), .val (.int xc)] [])) rfl (hb hby d1_40) (by decide) (by decide)
  obtain ⟨b4, g4⟩ : ∃ z, z = h0.size := ⟨_, rfl⟩
  rw [← g4] at A4 D4 st4
  have z4 : h0.size ≤ h4.size := E4.1
  have lt4 : b4 < h4.size := A4.lt
  have F5 : Fld Z h4 b4 "java/lang/String" "value" "[B" .null := D4 (Or.inr (hw _ (List.mem_of_getElem? (i := 20) rfl))) (ty := (.array .byte)) (by decide)
  have F6 : Fld Z h4 b4 "java/lang/String" "coder" "B" (.int (0 : Int32)) := D4 (Or.inr (hw _ (List.mem_of_getElem? (i := 21) rfl))) (ty := .byte) (by decide)
  have K4 : Keep h0 h4 [] := K0.ext E4
  refine Comes.st st4 ?_
  show Comes p e below _ (T4.setTop (mkF m 43 #[.val (.int (2 : Int32)), .val (.int xa), .val (.int xb), .val (.int xc)] [(.ref b4)]))
  refine Comes.st (fun t k => XS.dup X4.here hx rfl (hb hby d1_43) rfl rfl (XS.iconst X4.here hx rfl (hb hby d1_44) k)) ?_
  show Comes p e below _ (T4.setTop (mkF m 45 #[.val (.int (2 : Int32)), .val (.int xa), .val (.int xb), .val (.int xc)] [(.int (2 : Int32)), (.ref b4), (.ref b4)]))
  obtain ⟨T7, h7, k7, X7, e7, E7, A7, st7⟩ := newP X4 hx hZ (hw _ (List.mem_of_getElem? (i := 7) rfl)) e4 (g := (mkF m 45 #[.val (.int (2 : Int32)), .val (.int xa), .val (.int xb), .val (.int xc)] [(.int (2 : Int32)), (.ref b4), (.ref b4)])) rfl (hb hby d1_45) rfl (by decide) (cap := 2) (by decide) (by decide) (by decide) (by decide)
  obtain ⟨b7, g7⟩ : ∃ z, z = h4.size := ⟨_, rfl⟩
  rw [← g7] at A7 st7
  have z7 : h4.size ≤ h7.size := E7.1
  have lt7 : b7 < h7.size := A7.lt
  have V7 : Arv Z h7 b7 k7 .char (2 : Int32) [(.int (0 : Int32)), (.int (0 : Int32))] (.int (0 : Int32)) := (Arv.new A7 (by decide)).pad (pad_rep [] (.int (0 : Int32)) 2)
  have K7 : Keep h0 h7 [] := K4.ext E7
  refine Comes.st st7 ?_
  show Comes p e below _ (T7.setTop (mkF m 47 #[.val (.int (2 : Int32)), .val (.int xa), .val (.int xb), .val (.int xc)] [(.ref b7), (.ref b4), (.ref b4)]))
  refine Comes.st (fun t k => XS.dup X7.here hx rfl (hb hby d1_47) rfl rfl (XS.iconst X7.here hx rfl (hb hby d1_48) (XS.iloadN X7.here hx rfl (hb hby d1_49) rfl k))) ?_
  show Comes p e below _ (T7.setTop (mkF m 50 #[.val (.int (2 : Int32)), .val (.int xa), .val (.int xb), .val (.int xc)] [(.int xa), (.int (0 : Int32)), (.ref b7), (.ref b7), (.ref b4), (.ref b4)]))
  obtain ⟨cl8, Ar8, q8, S8, Ng8, H8, Gf8⟩ := id V7
  have hin8 : ¬ ((0 : Int32) < 0 ∨ cl8.slots.size ≤ ((0 : Int32)).toNatClampNeg) := inb_of S8 ⟨by decide, by decide⟩
  obtain ⟨T8, h8, X8, e8, W8, st8⟩ := stC X7 hx hZ e7 Ar8 (j := (0 : Int32)) hin8 (g := (mkF m 50 #[.val (.int (2 : Int32)), .val (.int xa), .val (.int xb), .val (.int xc)] [(.int xa), (.int (0 : Int32)), (.ref b7), (.ref b7), (.ref b4), (.ref b4)])) rfl rfl (hb hby d1_50)
  have V8 : Arv Z h8 b7 k7 .char (2 : Int32) [(.int (nar .char xa)), (.int (0 : Int32))] (.int (0 : Int32)) := Arv.set Ar8 q8 S8 Ng8 H8 Gf8 (fits_nar_char _) W8 0 rfl (Nat.le_of_ble_eq_true rfl)
  have z8 : h8.size = h7.size := W8.size
  have gn9 : n0 ≤ b7 := by omega
  have N8 := Fr.snoc X8 N0 gn9
  have gz10 : h0.size ≤ b7 := by omega
  have K8 : Keep h0 h8 [] := K7.wr W8 (Or.inr gz10)
  refine Comes.st st8 ?_
  show Comes p e below _ (T8.setTop (mkF m 51 #[.val (.int (2 : Int32)), .val (.int xa), .val (.int xb), .val (.int xc)] [(.ref b7), (.ref b4), (.ref b4)]))
  refine Comes.st (fun t k => XS.dup X8.here hx rfl (hb hby d1_51) rfl rfl (XS.iconst X8.here hx rfl (hb hby d1_52) (XS.iloadN X8.here hx rfl (hb hby d1_53) rfl k))) ?_
  show Comes p e below _ (T8.setTop (mkF m 54 #[.val (.int (2 : Int32)), .val (.int xa), .val (.int xb), .val (.int xc)] [(.int xb), (.int (1 : Int32)), (.ref b7), (.ref b7), (.ref b4), (.ref b4)]))
  obtain ⟨cl11, Ar11, q11, S11, Ng11, H11, Gf11⟩ := id V8
  have hin11 : ¬ ((1 : Int32) < 0 ∨ cl11.slots.size ≤ ((1 : Int32)).toNatClampNeg) := inb_of S11 ⟨by decide, by decide⟩
  obtain ⟨T11, h11, X11, e11, W11, st11⟩ := stC X8 hx hZ e8 Ar11 (j := (1 : Int32)) hin11 (g := (mkF m 54 #[.val (.int (2 : Int32)), .val (.int xa), .val (.int xb), .val (.int xc)] [(.int xb), (.int (1 : Int32)), (.ref b7), (.ref b7), (.ref b4), (.ref b4)])) rfl rfl (hb hby d1_54)
  have V11 : Arv Z h11 b7 k7 .char (2 : Int32) [(.int (nar .char xa)), (.int (nar .char xb))] (.int (0 : Int32)) := Arv.set Ar11 q11 S11 Ng11 H11 Gf11 (fits_nar_char _) W11 1 rfl (Nat.le_of_ble_eq_true rfl)
  have z11 : h11.size = h8.size := W11.size
  have N11 := Fr.snoc X11 N8 gn9
  have K11 : Keep h0 h11 [] := K8.wr W11 (Or.inr gz10)
  refine Comes.st st11 ?_
  show Comes p e below _ (T11.setTop (mkF m 55 #[.val (.int (2 : Int32)), .val (.int xa), .val (.int xb), .val (.int xc)] [(.ref b7), (.ref b4), (.ref b4)]))
  have F12 : Exa Z h11 b4 "java/lang/String" := (((A4.ext E7).wr W8).wr W11)
  have ne13 : b4 ≠ b7 := by omega
  have F14 : Fld Z h11 b4 "java/lang/String" "value" "[B" .null := (((F5.ext E7).other W8 (Or.inl ne13)).other W11 (Or.inl ne13))
  have F15 : Fld Z h11 b4 "java/lang/String" "coder" "B" (.int (0 : Int32)) := (((F6.ext E7).other W8 (Or.inl ne13)).other W11 (Or.inl ne13))
  have Od16 : Old Z n0 h11 := ((((G2.ext E4).ext E7).wr W8 (by omega)).wr W11 (by omega))
  obtain ⟨_, _, ⟨T17, L17, k17, n17⟩, -, X17, ⟨Lc17, hQ17, l17, y17, z17⟩, st17⟩ := X11.specialBack hx (y := (⟨"java/lang/String", "<init>", "([C)V"⟩ : MethodName)) rfl hown (mvT hZ (hw _ (List.mem_of_getElem? (i := 8) rfl))) (mvT hZ (hw _ (List.mem_of_getElem? (i := 9) rfl))) (mvT hZ (hw _ (List.mem_of_getElem? (i := 10) rfl))) (by decide) (backOf (W := 1) (sic2 l Z a0 hw [] b4 b7 k7 cs ((nar .char xa)) ((nar .char xb)) h11 n0 (by omega)  F12 F14 F15 V11 (Ne.symm ne13) (by omega) G0 (by first | assumption | (rw [own_char (by assumption)]; assumption)) Od16 (by first | assumption | (rw [own_char (by assumption)]; assumption)) (by first | assumption | (rw [own_char (by assumption)]; assumption))) hZ (hw _ (List.mem_of_getElem? (i := 10) rfl)) (hw _ (List.mem_of_getElem? (i := 6) rfl)) (by decide) (by decide)) (g := (mkF m 55 #[.val (.int (2 : Int32)), .val (.int xa), .val (.int xb), .val (.int xc)] [(.ref b7), (.ref b4), (.ref b4)])) rfl (by rw [hml]; rfl) (Steps.refl _) (a := b4) (argsL := [(.ref b7)]) (rest := [(.ref b4)]) (lenOf pd_4 rfl) rfl (by show 2 * 0 + _ ≤ _; exact Nat.le_of_eq rfl) (hb hby d1_55) (fun _ _ => ⟨rfl, e11, (by decide : 2 + 1 ≤ _), (by decide : 6 + 2 ≤ _)⟩)
  dsimp only [Pt.U, Pt.locs, Pt.cells, Pt.slots] at X17 l17 y17 z17 st17 hQ17
  subst l17 y17 z17
  obtain ⟨o18, r19, rfl, Nq17, Kq17, P17_0, P17_1, P17_2, P17_3⟩ := hQ17
  have N17 := Fr.app N11 Nq17
  have z17k : h11.size ≤ T17.heap.size := Kq17.1
  have gz20 : h0.size ≤ b4 := by omega
  have K17 : Keep h0 T17.heap [] := K11.trans Kq17 (allS (Or.inr gz20) all0)
  refine Comes.go st17 ?_
  have lt_21 : b4 < T17.heap.size := P17_0.lt
  have lt_22 : o18 < T17.heap.size := P17_3.lt
  show Comes p e below _ (T17.setTop (mkF m 58 #[.val (.int (2 : Int32)), .val (.int xa), .val (.int xb), .val (.int xc)] [(.ref b4)]))
  exact Comes.retV X17 hx Bd.returns (narrow_ref rfl) (Or.inr (Or.inr (Or.inr (Or.inr ⟨rfl, rfl, rfl⟩)))) hlk (hb hby d1_58) rfl ⟨b4, o18, r19, rfl, N17, K17, P17_0, P17_1, P17_2, P17_3, (by omega)⟩ (by decide) (by decide)
def Q_cin3 (Z : State) (sr ds : Nat) (ks kd : ClassId) (xa xb xc : Int32) (h0 : Heap) (n0 : Nat) (v_ : Option Value) (h : Heap) (L_ : List Loc) : Prop := (v_ = some (.int (3 : Int32))) ∧ (Fr n0 L_) ∧ (Keep h0 h [ds]) ∧ (Arv Z h ds kd .byte (3 : Int32) [(.int (nar .byte (xa.toInt8.toInt32))), (.int (nar .byte (xb.toInt8.toInt32))), (.int (nar .byte (xc.toInt8.toInt32)))] (.int (0 : Int32)))
set_option maxRecDepth 65536 in
set_option maxHeartbeats 40000000 in
theorem cin3 (l : Launch) (Z : State) (a0 : Array Value) (hw : ∀ d ∈ tables_1, d.before a0 Z = true) (ws : List Jvm.Cond) (sr ds : Nat) (ks kd : ClassId) (xa xb xc : Int32) (h0 : Heap) (n0 : Nat) (Z0 : n0 ≤ h0.size) (G0 : Arv Z h0 sr ks .char (3 : Int32) [(.int xa), (.int xb), (.int xc)] (.int (0 : Int32))) (G1 : Arv Z h0 ds kd .byte (3 : Int32) [(.int (0 : Int32)), (.int (0 : Int32)), (.int (0 : Int32))] (.int (0 : Int32))) (G2 : sr ≠ ds) (G3 : n0 ≤ ds) (G4 : 0 ≤ xa.toInt ∧ xa.toInt ≤ 255) (G5 : 0 ≤ xb.toInt ∧ xb.toInt ≤ 255) (G6 : 0 ≤ xc.toInt ∧ xc.toInt ≤ 255) :
    MetFree l (⟨"java/lang/StringUTF16", "compress", "([CI[BII)I"⟩ : MethodName) (head1 (Jvm.Cond.code (⟨"java/lang/StringUTF16", "compress", "([CI[BII)I"⟩ : MethodName) jdk_52_method_21_code 7 (some .int) :: ws) ({ frames := 0, cells := 0, slots := 0, locals := 0 } : Room)) (fun a_ U_ => a_ = #[(.ref sr), (.int (0 : Int32)), (.ref ds), (.int (0 : Int32)), (.int (3 : Int32))] ∧ Z.Warmed39 U_.vm ∧ U_.heap = h0) (fun _ _ _ _ _ => True) (fun _ U_ o_ V_ => ∃ v_ L_, o_ = .returned v_ ∧ Q_cin3 Z sr ds ks kd xa xb xc h0 n0 v_ V_.heap L_ ∧ FrameEnd U_ o_ V_ L_ ({ frames := 0, cells := 0, slots := 0, locals := 0 } : Room).cells ({ frames := 0, cells := 0, slots := 0, locals := 0 } : Room).slots) := by
  refine MetFree.of_bodySF (plainFor_of_name pn_6) hisR ?_
  intro p e s m args below meth c s₁ Bd hml0 hP hK
  obtain ⟨rfl, hZ, hh⟩ := hP
  have hx := Bd.exec
  have hby := Bd.bytes
  have hml : c.maxLocals = 7 := hml0
  have hown : s.vm.findClass "java/lang/StringUTF16" = some m.cls := findClass_of_methodNamed Bd.named
  have hnm := (name_of_methodNamed Bd.named Bd.method).1
  have hlk : meth.locks = false := Bd.notSynchronized
  have X0 : Stand p l e ({ frames := 0, cells := 0, slots := 0, locals := 0 } : Room) s m #[(.ref sr), (.int (0 : Int32)), (.ref ds), (.int (0 : Int32)), (.int (3 : Int32))] below meth c s₁ [] 0 0 := Stand.of_body Bd
  have e0 : s₁.heap = h0 := by rw [← hh, Bd.state]; rfl
  have N0 := Fr.nil n0
  have K0 := Keep.refl h0 [ds]
  refine Comes.out (Q := Q_cin3 Z sr ds ks kd xa xb xc h0 n0) (kc := ({ frames := 0, cells := 0, slots := 0, locals := 0 } : Room).cells) (ks := ({ frames := 0, cells := 0, slots := 0, locals := 0 } : Room).slots) ?_
  refine Comes.cast (ef_cin3 m sr ds) ?_
  have lt_sr : sr < h0.size := G0.lt
  have lt_ds : ds < h0.size := G1.lt
  show Comes p e below _ (s₁.setTop (mkF m 0 #[.val (.ref sr), .val (.int (0 : Int32)), .val (.ref ds), .val (.int (0 : Int32)), .val (.int (3 : Int32)), .unset, .unset] []))
  refine Comes.st (fun t k => XS.iconst X0.here hx rfl (hb hby d6_0) (XS.istore X0.here hx rfl (hb hby d6_1) rfl (l' := #[.val (.ref sr), .val (.int (0 : Int32)), .val (.ref ds), .val (.int (0 : Int32)), .val (.int (3 : Int32)), .val (.int (0 : Int32)), .unset]) rfl (XS.iload X0.here hx rfl (hb hby d6_3) rfl (XS.iload X0.here hx rfl (hb hby d6_5) rfl k)))) ?_
  show Comes p e below _ (s₁.setTop (mkF m 7 #[.val (.ref sr), .val (.int (0 : Int32)), .val (.ref ds), .val (.int (0 : Int32)), .val (.int (3 : Int32)), .val (.int (0 : Int32)), .unset] [(.int (3 : Int32)), (.int (0 : Int32))]))
  have hc7_1 : (0 : Int32) < (3 : Int32) := by decide
  refine Comes.st (fun t k => XS.icmpNo X0.here hx rfl (hb hby d6_7) rfl (tlt hc7_1).2.1 (XS.aloadN X0.here hx rfl (hb hby d6_10) rfl rfl (XS.iloadN X0.here hx rfl (hb hby d6_11) rfl k))) ?_
  show Comes p e below _ (s₁.setTop (mkF m 12 #[.val (.ref sr), .val (.int (0 : Int32)), .val (.ref ds), .val (.int (0 : Int32)), .val (.int (3 : Int32)), .val (.int (0 : Int32)), .unset] [(.int (0 : Int32)), (.ref sr)]))
  obtain ⟨cl2, Ar2, q2, S2, Ng2, H2, Gf2⟩ := id G0
  have hin2 : ¬ ((0 : Int32) < 0 ∨ cl2.slots.size ≤ ((0 : Int32)).toNatClampNeg) := inb_of S2 ⟨by decide, by decide⟩
  refine Comes.st (fun t k => X0.caload hx (j := (0 : Int32)) (v := (.int xa)) (by rw [e0]; exact Ar2.1) (State.isArrayOf_alike hZ.alike Ar2.2.1) Ar2.2.2 hin2 (Has.at H2 hin2 rfl) (g := (mkF m 12 #[.val (.ref sr), .val (.int (0 : Int32)), .val (.ref ds), .val (.int (0 : Int32)), .val (.int (3 : Int32)), .val (.int (0 : Int32)), .unset] [(.int (0 : Int32)), (.ref sr)])) rfl rfl (hb hby d6_12) _ (XS.istore X0.here hx rfl (hb hby d6_13) rfl (l' := #[.val (.ref sr), .val (.int (0 : Int32)), .val (.ref ds), .val (.int (0 : Int32)), .val (.int (3 : Int32)), .val (.int (0 : Int32)), .val (.int xa)]) rfl (XS.iload X0.here hx rfl (hb hby d6_15) rfl (XS.sipush X0.here hx rfl (hb hby d6_17) k)))) ?_
  show Comes p e below _ (s₁.setTop (mkF m 20 #[.val (.ref sr), .val (.int (0 : Int32)), .val (.ref ds), .val (.int (0 : Int32)), .val (.int (3 : Int32)), .val (.int (0 : Int32)), .val (.int xa)] [(.int (255 : Int32)), (.int xa)]))
  have hc20_3 : ¬ ((255 : Int32) < xa) := by exact own_le255 (by assumption)
  refine Comes.st (fun t k => XS.icmpYes X0.here hx rfl (pc0 := 20) (pc' := 26) rfl (hb hby d6_20) rfl (flt hc20_3).2.2.2 (by decide) (by decide) (XS.aloadN X0.here hx rfl (hb hby d6_26) rfl rfl (XS.iloadN X0.here hx rfl (hb hby d6_27) rfl (XS.iload X0.here hx rfl (hb hby d6_28) rfl (XS.i2b X0.here hx rfl (hb hby d6_30) rfl k))))) ?_
  show Comes p e below _ (s₁.setTop (mkF m 31 #[.val (.ref sr), .val (.int (0 : Int32)), .val (.ref ds), .val (.int (0 : Int32)), .val (.int (3 : Int32)), .val (.int (0 : Int32)), .val (.int xa)] [(.int (xa.toInt8.toInt32)), (.int (0 : Int32)), (.ref ds)]))
  obtain ⟨cl4, Ar4, q4, S4, Ng4, H4, Gf4⟩ := id G1
  have hin4 : ¬ ((0 : Int32) < 0 ∨ cl4.slots.size ≤ ((0 : Int32)).toNatClampNeg) := inb_of S4 ⟨by decide, by decide⟩
  obtain ⟨T4, h4, X4, e4, W4, st4⟩ := stB X0 hx hZ e0 Ar4 (j := (0 : Int32)) hin4 (g := (mkF m 31 #[.val (.ref sr), .val (.int (0 : Int32)), .val (.ref ds), .val (.int (0 : Int32)), .val (.int (3 : Int32)), .val (.int (0 : Int32)), .val (.int xa)] [(.int (xa.toInt8.toInt32)), (.int (0 : Int32)), (.ref ds)])) rfl rfl (hb hby d6_31)
  have V4 : Arv Z h4 ds kd .byte (3 : Int32) [(.int (nar .byte (xa.toInt8.toInt32))), (.int (0 : Int32)), (.int (0 : Int32))] (.int (0 : Int32)) := Arv.set Ar4 q4 S4 Ng4 H4 Gf4 (fits_nar_byte _) W4 0 rfl (Nat.le_of_ble_eq_true rfl)
  have z4 : h4.size = h0.size := W4.size
  have gn5 : n0 ≤ ds := by omega
  have N4 := Fr.snoc X4 N0 gn5
  have K4 : Keep h0 h4 [ds] := K0.wr W4 (Or.inl (List.mem_of_getElem? (i := 0) rfl))
  refine Comes.st st4 ?_
  show Comes p e below _ (T4.setTop (mkF m 32 #[.val (.ref sr), .val (.int (0 : Int32)), .val (.ref ds), .val (.int (0 : Int32)), .val (.int (3 : Int32)), .val (.int (0 : Int32)), .val (.int xa)] []))
  refine Comes.st (fun t k => XS.iinc X4.here hx rfl (hb hby d6_32) rfl (l' := #[.val (.ref sr), .val (.int (1 : Int32)), .val (.ref ds), .val (.int (0 : Int32)), .val (.int (3 : Int32)), .val (.int (0 : Int32)), .val (.int xa)]) rfl (XS.iinc X4.here hx rfl (hb hby d6_35) rfl (l' := #[.val (.ref sr), .val (.int (1 : Int32)), .val (.ref ds), .val (.int (1 : Int32)), .val (.int (3 : Int32)), .val (.int (0 : Int32)), .val (.int xa)]) rfl (XS.iinc X4.here hx rfl (hb hby d6_38) rfl (l' := #[.val (.ref sr), .val (.int (1 : Int32)), .val (.ref ds), .val (.int (1 : Int32)), .val (.int (3 : Int32)), .val (.int (1 : Int32)), .val (.int xa)]) rfl (XS.goto X4.here hx rfl (pc0 := 41) (pc' := 3) rfl (hb hby d6_41) (by decide) (by decide) (XS.iload X4.here hx rfl (hb hby d6_3) rfl (XS.iload X4.here hx rfl (hb hby d6_5) rfl k)))))) ?_
  show Comes p e below _ (T4.setTop (mkF m 7 #[.val (.ref sr), .val (.int (1 : Int32)), .val (.ref ds), .val (.int (1 : Int32)), .val (.int (3 : Int32)), .val (.int (1 : Int32)), .val (.int xa)] [(.int (3 : Int32)), (.int (1 : Int32))]))
  have hc7_6 : (1 : Int32) < (3 : Int32) := by decide
  refine Comes.st (fun t k => XS.icmpNo X4.here hx rfl (hb hby d6_7) rfl (tlt hc7_6).2.1 (XS.aloadN X4.here hx rfl (hb hby d6_10) rfl rfl (XS.iloadN X4.here hx rfl (hb hby d6_11) rfl k))) ?_
  show Comes p e below _ (T4.setTop (mkF m 12 #[.val (.ref sr), .val (.int (1 : Int32)), .val (.ref ds), .val (.int (1 : Int32)), .val (.int (3 : Int32)), .val (.int (1 : Int32)), .val (.int xa)] [(.int (1 : Int32)), (.ref sr)]))
  have F7 : Arv Z h4 sr ks .char (3 : Int32) [(.int xa), (.int xb), (.int xc)] (.int (0 : Int32)) := (G0.other W4 G2)
  obtain ⟨cl8, Ar8, q8, S8, Ng8, H8, Gf8⟩ := id F7
  have hin8 : ¬ ((1 : Int32) < 0 ∨ cl8.slots.size ≤ ((1 : Int32)).toNatClampNeg) := inb_of S8 ⟨by decide, by decide⟩
  refine Comes.st (fun t k => X4.caload hx (j := (1 : Int32)) (v := (.int xb)) (by rw [e4]; exact Ar8.1) (State.isArrayOf_alike hZ.alike Ar8.2.1) Ar8.2.2 hin8 (Has.at H8 hin8 rfl) (g := (mkF m 12 #[.val (.ref sr), .val (.int (1 : Int32)), .val (.ref ds), .val (.int (1 : Int32)), .val (.int (3 : Int32)), .val (.int (1 : Int32)), .val (.int xa)] [(.int (1 : Int32)), (.ref sr)])) rfl rfl (hb hby d6_12) _ (XS.istore X4.here hx rfl (hb hby d6_13) rfl (l' := #[.val (.ref sr), .val (.int (1 : Int32)), .val (.ref ds), .val (.int (1 : Int32)), .val (.int (3 : Int32)), .val (.int (1 : Int32)), .val (.int xb)]) rfl (XS.iload X4.here hx rfl (hb hby d6_15) rfl (XS.sipush X4.here hx rfl (hb hby d6_17) k)))) ?_
  show Comes p e below _ (T4.setTop (mkF m 20 #[.val (.ref sr), .val (.int (1 : Int32)), .val (.ref ds), .val (.int (1 : Int32)), .val (.int (3 : Int32)), .val (.int (1 : Int32)), .val (.int xb)] [(.int (255 : Int32)), (.int xb)]))
  have hc20_9 : ¬ ((255 : Int32) < xb) := by exact own_le255 (by assumption)
  refine Comes.st (fun t k => XS.icmpYes X4.here hx rfl (pc0 := 20) (pc' := 26) rfl (hb hby d6_20) rfl (flt hc20_9).2.2.2 (by decide) (by decide) (XS.aloadN X4.here hx rfl (hb hby d6_26) rfl rfl (XS.iloadN X4.here hx rfl (hb hby d6_27) rfl (XS.iload X4.here hx rfl (hb hby d6_28) rfl (XS.i2b X4.here hx rfl (hb hby d6_30) rfl k))))) ?_
  show Comes p e below _ (T4.setTop (mkF m 31 #[.val (.ref sr), .val (.int (1 : Int32)), .val (.ref ds), .val (.int (1 : Int32)), .val (.int (3 : Int32)), .val (.int (1 : Int32)), .val (.int xb)] [(.int (xb.toInt8.toInt32)), (.int (1 : Int32)), (.ref ds)]))
  obtain ⟨cl10, Ar10, q10, S10, Ng10, H10, Gf10⟩ := id V4
  have hin10 : ¬ ((1 : Int32) < 0 ∨ cl10.slots.size ≤ ((1 : Int32)).toNatClampNeg) := inb_of S10 ⟨by decide, by decide⟩
  obtain ⟨T10, h10, X10, e10, W10, st10⟩ := stB X4 hx hZ e4 Ar10 (j := (1 : Int32)) hin10 (g := (mkF m 31 #[.val (.ref sr), .val (.int (1 : Int32)), .val (.ref ds), .val (.int (1 : Int32)), .val (.int (3 : Int32)), .val (.int (1 : Int32)), .val (.int xb)] [(.int (xb.toInt8.toInt32)), (.int (1 : Int32)), (.ref ds)])) rfl rfl (hb hby d6_31)
  have V10 : Arv Z h10 ds kd .byte (3 : Int32) [(.int (nar .byte (xa.toInt8.toInt32))), (.int (nar .byte (xb.toInt8.toInt32))), (.int (0 : Int32))] (.int (0 : Int32)) := Arv.set Ar10 q10 S10 Ng10 H10 Gf10 (fits_nar_byte _) W10 1 rfl (Nat.le_of_ble_eq_true rfl)
  have z10 : h10.size = h4.size := W10.size
  have N10 := Fr.snoc X10 N4 gn5
  have K10 : Keep h0 h10 [ds] := K4.wr W10 (Or.inl (List.mem_of_getElem? (i := 0) rfl))
  refine Comes.st st10 ?_
  show Comes p e below _ (T10.setTop (mkF m 32 #[.val (.ref sr), .val (.int (1 : Int32)), .val (.ref ds), .val (.int (1 : Int32)), .val (.int (3 : Int32)), .val (.int (1 : Int32)), .val (.int xb)] []))
  refine Comes.st (fun t k => XS.iinc X10.here hx rfl (hb hby d6_32) rfl (l' := #[.val (.ref sr), .val (.int (2 : Int32)), .val (.ref ds), .val (.int (1 : Int32)), .val (.int (3 : Int32)), .val (.int (1 : Int32)), .val (.int xb)]) rfl (XS.iinc X10.here hx rfl (hb hby d6_35) rfl (l' := #[.val (.ref sr), .val (.int (2 : Int32)), .val (.ref ds), .val (.int (2 : Int32)), .val (.int (3 : Int32)), .val (.int (1 : Int32)), .val (.int xb)]) rfl (XS.iinc X10.here hx rfl (hb hby d6_38) rfl (l' := #[.val (.ref sr), .val (.int (2 : Int32)), .val (.ref ds), .val (.int (2 : Int32)), .val (.int (3 : Int32)), .val (.int (2 : Int32)), .val (.int xb)]) rfl (XS.goto X10.here hx rfl (pc0 := 41) (pc' := 3) rfl (hb hby d6_41) (by decide) (by decide) (XS.iload X10.here hx rfl (hb hby d6_3) rfl (XS.iload X10.here hx rfl (hb hby d6_5) rfl k)))))) ?_
  show Comes p e below _ (T10.setTop (mkF m 7 #[.val (.ref sr), .val (.int (2 : Int32)), .val (.ref ds), .val (.int (2 : Int32)), .val (.int (3 : Int32)), .val (.int (2 : Int32)), .val (.int xb)] [(.int (3 : Int32)), (.int (2 : Int32))]))
  have hc7_11 : (2 : Int32) < (3 : Int32) := by decide
  refine Comes.st (fun t k => XS.icmpNo X10.here hx rfl (hb hby d6_7) rfl (tlt hc7_11).2.1 (XS.aloadN X10.here hx rfl (hb hby d6_10) rfl rfl (XS.iloadN X10.here hx rfl (hb hby d6_11) rfl k))) ?_
  show Comes p e below _ (T10.setTop (mkF m 12 #[.val (.ref sr), .val (.int (2 : Int32)), .val (.ref ds), .val (.int (2 : Int32)), .val (.int (3 : Int32)), .val (.int (2 : Int32)), .val (.int xb)] [(.int (2 : Int32)), (.ref sr)]))
  have F12 : Arv Z h10 sr ks .char (3 : Int32) [(.int xa), (.int xb), (.int xc)] (.int (0 : Int32)) := (F7.other W10 G2)
  obtain ⟨cl13, Ar13, q13, S13, Ng13, H13, Gf13⟩ := id F12
  have hin13 : ¬ ((2 : Int32) < 0 ∨ cl13.slots.size ≤ ((2 : Int32)).toNatClampNeg) := inb_of S13 ⟨by decide, by decide⟩
  refine Comes.st (fun t k => X10.caload hx (j := (2 : Int32)) (v := (.int xc)) (by rw [e10]; exact Ar13.1) (State.isArrayOf_alike hZ.alike Ar13.2.1) Ar13.2.2 hin13 (Has.at H13 hin13 rfl) (g := (mkF m 12 #[.val (.ref sr), .val (.int (2 : Int32)), .val (.ref ds), .val (.int (2 : Int32)), .val (.int (3 : Int32)), .val (.int (2 : Int32)), .val (.int xb)] [(.int (2 : Int32)), (.ref sr)])) rfl rfl (hb hby d6_12) _ (XS.istore X10.here hx rfl (hb hby d6_13) rfl (l' := #[.val (.ref sr), .val (.int (2 : Int32)), .val (.ref ds), .val (.int (2 : Int32)), .val (.int (3 : Int32)), .val (.int (2 : Int32)), .val (.int xc)]) rfl (XS.iload X10.here hx rfl (hb hby d6_15) rfl (XS.sipush X10.here hx rfl (hb hby d6_17) k)))) ?_
  show Comes p e below _ (T10.setTop (mkF m 20 #[.val (.ref sr), .val (.int (2 : Int32)), .val (.ref ds), .val (.int (2 : Int32)), .val (.int (3 : Int32)), .val (.int (2 : Int32)), .val (.int xc)] [(.int (255 : Int32)), (.int xc)]))
  have hc20_14 : ¬ ((255 : Int32) < xc) := by exact own_le255 (by assumption)
  refine Comes.st (fun t k => XS.icmpYes X10.here hx rfl (pc0 := 20) (pc' := 26) rfl (hb hby d6_20) rfl (flt hc20_14).2.2.2 (by decide) (by decide) (XS.aloadN X10.here hx rfl (hb hby d6_26) rfl rfl (XS.iloadN X10.here hx rfl (hb hby d6_27) rfl (XS.iload X10.here hx rfl (hb hby d6_28) rfl (XS.i2b X10.here hx rfl (hb hby d6_30) rfl k))))) ?_
  show Comes p e below _ (T10.setTop (mkF m 31 #[.val (.ref sr), .val (.int (2 : Int32)), .val (.ref ds), .val (.int (2 : Int32)), .val (.int (3 : Int32)), .val (.int (2 : Int32)), .val (.int xc)] [(.int (xc.toInt8.toInt32)), (.int (2 : Int32)), (.ref ds)]))
  obtain ⟨cl15, Ar15, q15, S15, Ng15, H15, Gf15⟩ := id V10
  have hin15 : ¬ ((2 : Int32) < 0 ∨ cl15.slots.size ≤ ((2 : Int32)).toNatClampNeg) := inb_of S15 ⟨by decide, by decide⟩
  obtain ⟨T15, h15, X15, e15, W15, st15⟩ := stB X10 hx hZ e10 Ar15 (j := (2 : Int32)) hin15 (g := (mkF m 31 #[.val (.ref sr), .val (.int (2 : Int32)), .val (.ref ds), .val (.int (2 : Int32)), .val (.int (3 : Int32)), .val (.int (2 : Int32)), .val (.int xc)] [(.int (xc.toInt8.toInt32)), (.int (2 : Int32)), (.ref ds)])) rfl rfl (hb hby d6_31)
  have V15 : Arv Z h15 ds kd .byte (3 : Int32) [(.int (nar .byte (xa.toInt8.toInt32))), (.int (nar .byte (xb.toInt8.toInt32))), (.int (nar .byte (xc.toInt8.toInt32)))] (.int (0 : Int32)) := Arv.set Ar15 q15 S15 Ng15 H15 Gf15 (fits_nar_byte _) W15 2 rfl (Nat.le_of_ble_eq_true rfl)
  have z15 : h15.size = h10.size := W15.size
  have N15 := Fr.snoc X15 N10 gn5
  have K15 : Keep h0 h15 [ds] := K10.wr W15 (Or.inl (List.mem_of_getElem? (i := 0) rfl))
  refine Comes.st st15 ?_
  show Comes p e below _ (T15.setTop (mkF m 32 #[.val (.ref sr), .val (.int (2 : Int32)), .val (.ref ds), .val (.int (2 : Int32)), .val (.int (3 : Int32)), .val (.int (2 : Int32)), .val (.int xc)] []))
  refine Comes.st (fun t k => XS.iinc X15.here hx rfl (hb hby d6_32) rfl (l' := #[.val (.ref sr), .val (.int (3 : Int32)), .val (.ref ds), .val (.int (2 : Int32)), .val (.int (3 : Int32)), .val (.int (2 : Int32)), .val (.int xc)]) rfl (XS.iinc X15.here hx rfl (hb hby d6_35) rfl (l' := #[.val (.ref sr), .val (.int (3 : Int32)), .val (.ref ds), .val (.int (3 : Int32)), .val (.int (3 : Int32)), .val (.int (2 : Int32)), .val (.int xc)]) rfl (XS.iinc X15.here hx rfl (hb hby d6_38) rfl (l' := #[.val (.ref sr), .val (.int (3 : Int32)), .val (.ref ds), .val (.int (3 : Int32)), .val (.int (3 : Int32)), .val (.int (3 : Int32)), .val (.int xc)]) rfl (XS.goto X15.here hx rfl (pc0 := 41) (pc' := 3) rfl (hb hby d6_41) (by decide) (by decide) (XS.iload X15.here hx rfl (hb hby d6_3) rfl (XS.iload X15.here hx rfl (hb hby d6_5) rfl k)))))) ?_
  show Comes p e below _ (T15.setTop (mkF m 7 #[.val (.ref sr), .val (.int (3 : Int32)), .val (.ref ds), .val (.int (3 : Int32)), .val (.int (3 : Int32)), .val (.int (3 : Int32)), .val (.int xc)] [(.int (3 : Int32)), (.int (3 : Int32))]))
  have hc7_16 : ¬ ((3 : Int32) < (3 : Int32)) := by decide
  refine Comes.st (fun t k => XS.icmpYes X15.here hx rfl (pc0 := 7) (pc' := 44) rfl (hb hby d6_7) rfl (flt hc7_16).2.1 (by decide) (by decide) (XS.iload X15.here hx rfl (hb hby d6_44) rfl k)) ?_
  show Comes p e below _ (T15.setTop (mkF m 46 #[.val (.ref sr), .val (.int (3 : Int32)), .val (.ref ds), .val (.int (3 : Int32)), .val (.int (3 : Int32)), .val (.int (3 : Int32)), .val (.int xc)] [(.int (3 : Int32))]))
  exact Comes.retV X15 hx Bd.returns rfl (Or.inl ⟨rfl, Or.inl rfl, _, rfl⟩) hlk (hb hby d6_46) e15 ⟨rfl, N15, K15, V15⟩ (by decide) (by decide)
def Q_cou3 (Z : State) (sr : Nat) (ks : ClassId) (xa xb xc : Int32) (h0 : Heap) (n0 : Nat) (v_ : Option Value) (h : Heap) (L_ : List Loc) : Prop := ∃ (vb : Nat), ∃ (kb : ClassId), (v_ = some (.ref vb)) ∧ (Fr n0 L_) ∧ (Keep h0 h []) ∧ (Arv Z h vb kb .byte (3 : Int32) [(.int (nar .byte (xa.toInt8.toInt32))), (.int (nar .byte (xb.toInt8.toInt32))), (.int (nar .byte (xc.toInt8.toInt32)))] (.int (0 : Int32))) ∧ (h0.size ≤ vb)
set_option maxRecDepth 65536 in
set_option maxHeartbeats 40000000 in
theorem cou3 (l : Launch) (Z : State) (a0 : Array Value) (hw : ∀ d ∈ tables_1, d.before a0 Z = true) (ws : List Jvm.Cond) (sr : Nat) (ks : ClassId) (xa xb xc : Int32) (h0 : Heap) (n0 : Nat) (Z0 : n0 ≤ h0.size) (G0 : Arv Z h0 sr ks .char (3 : Int32) [(.int xa), (.int xb), (.int xc)] (.int (0 : Int32))) (G1 : 0 ≤ xa.toInt ∧ xa.toInt ≤ 255) (G2 : 0 ≤ xb.toInt ∧ xb.toInt ≤ 255) (G3 : 0 ≤ xc.toInt ∧ xc.toInt ≤ 255) :
    MetFree l (⟨"java/lang/StringUTF16", "compress", "([CII)[B"⟩ : MethodName) (head1 (Jvm.Cond.code (⟨"java/lang/StringUTF16", "compress", "([CII)[B"⟩ : MethodName) jdk_52_method_16_code 6 (some (.array .byte)) :: ws) ({ frames := 1, cells := 1, slots := 3, locals := 18 } : Room)) (fun a_ U_ => a_ = #[(.ref sr), (.int (0 : Int32)), (.int (3 : Int32))] ∧ Z.Warmed39 U_.vm ∧ U_.heap = h0) (fun _ _ _ _ _ => True) (fun _ U_ o_ V_ => ∃ v_ L_, o_ = .returned v_ ∧ Q_cou3 Z sr ks xa xb xc h0 n0 v_ V_.heap L_ ∧ FrameEnd U_ o_ V_ L_ ({ frames := 1, cells := 1, slots := 3, locals := 18 } : Room).cells ({ frames := 1, cells := 1, slots := 3, locals := 18 } : Room).slots) := by
  refine MetFree.of_bodySF (plainFor_of_name pn_5) hisR ?_
  intro p e s m args below meth c s₁ Bd hml0 hP hK
  obtain ⟨rfl, hZ, hh⟩ := hP
  have hx := Bd.exec
  have hby := Bd.bytes
  have hml : c.maxLocals = 6 := hml0
  have hown : s.vm.findClass "java/lang/StringUTF16" = some m.cls := findClass_of_methodNamed Bd.named
  have hnm := (name_of_methodNamed Bd.named Bd.method).1
  have hlk : meth.locks = false := Bd.notSynchronized
  have X0 : Stand p l e ({ frames := 1, cells := 1, slots := 3, locals := 18 } : Room) s m #[(.ref sr), (.int (0 : Int32)), (.int (3 : Int32))] below meth c s₁ [] 0 0 := Stand.of_body Bd
  have e0 : s₁.heap = h0 := by rw [← hh, Bd.state]; rfl
  have N0 := Fr.nil n0
  have K0 := Keep.refl h0 []
  refine Comes.out (Q := Q_cou3 Z sr ks xa xb xc h0 n0) (kc := ({ frames := 1, cells := 1, slots := 3, locals := 18 } : Room).cells) (ks := ({ frames := 1, cells := 1, slots := 3, locals := 18 } : Room).slots) ?_
  refine Comes.cast (ef_cou3 m sr) ?_
  have lt_sr : sr < h0.size := G0.lt
  show Comes p e below _ (s₁.setTop (mkF m 0 #[.val (.ref sr), .val (.int (0 : Int32)), .val (.int (3 : Int32)), .unset, .unset, .unset] []))
  refine Comes.st (fun t k => XS.iloadN X0.here hx rfl (hb hby d5_0) rfl k) ?_
  show Comes p e below _ (s₁.setTop (mkF m 1 #[.val (.ref sr), .val (.int (0 : Int32)), .val (.int (3 : Int32)), .unset, .unset, .unset] [(.int (3 : Int32))]))
  obtain ⟨T1, h1, k1, X1, e1, E1, A1, st1⟩ := newP X0 hx hZ (hw _ (List.mem_of_getElem? (i := 19) rfl)) e0 (g := (mkF m 1 #[.val (.ref sr), .val (.int (0 : Int32)), .val (.int (3 : Int32)), .unset, .unset, .unset] [(.int (3 : Int32))])) rfl (hb hby d5_1) rfl (by decide) (cap := 3) (by decide) (by decide) (by decide) (by decide)
  obtain ⟨b1, g1⟩ : ∃ z, z = h0.size := ⟨_, rfl⟩
  rw [← g1] at A1 st1
  have z1 : h0.size ≤ h1.size := E1.1
  have lt1 : b1 < h1.size := A1.lt
  have V1 : Arv Z h1 b1 k1 .byte (3 : Int32) [(.int (0 : Int32)), (.int (0 : Int32)), (.int (0 : Int32))] (.int (0 : Int32)) := (Arv.new A1 (by decide)).pad (pad_rep [] (.int (0 : Int32)) 3)
  have K1 : Keep h0 h1 [] := K0.ext E1
  refine Comes.st st1 ?_
  show Comes p e below _ (T1.setTop (mkF m 3 #[.val (.ref sr), .val (.int (0 : Int32)), .val (.int (3 : Int32)), .unset, .unset, .unset] [(.ref b1)]))
  refine Comes.st (fun t k => XS.astoreN X1.here hx rfl (hb hby d5_3) rfl rfl (l' := #[.val (.ref sr), .val (.int (0 : Int32)), .val (.int (3 : Int32)), .val (.ref b1), .unset, .unset]) rfl (XS.aloadN X1.here hx rfl (hb hby d5_4) rfl rfl (XS.iloadN X1.here hx rfl (hb hby d5_5) rfl (XS.aloadN X1.here hx rfl (hb hby d5_6) rfl rfl (XS.iconst X1.here hx rfl (hb hby d5_7) (XS.iloadN X1.here hx rfl (hb hby d5_8) rfl k)))))) ?_
  show Comes p e below _ (T1.setTop (mkF m 9 #[.val (.ref sr), .val (.int (0 : Int32)), .val (.int (3 : Int32)), .val (.ref b1), .unset, .unset] [(.int (3 : Int32)), (.int (0 : Int32)), (.ref b1), (.int (0 : Int32)), (.ref sr)]))
  have F2 : Arv Z h1 sr ks .char (3 : Int32) [(.int xa), (.int xb), (.int xc)] (.int (0 : Int32)) := (G0.ext E1)
  have ne3 : sr ≠ b1 := by omega
  obtain ⟨_, _, ⟨T4, L4, k4, n4⟩, -, X4, ⟨Lc4, hQ4, l4, y4, z4⟩, st4⟩ := Jvm.LawKit.callS X1 hx (y := (⟨"java/lang/StringUTF16", "compress", "([CI[BII)I"⟩ : MethodName)) hown (mvT hZ (hw _ (List.mem_of_getElem? (i := 31) rfl))) (mvT hZ (hw _ (List.mem_of_getElem? (i := 32) rfl))) (mvT hZ (hw _ (List.mem_of_getElem? (i := 29) rfl))) (mvT hZ (hw _ (List.mem_of_getElem? (i := 33) rfl))) (by decide) (backOf (W := 0) (cin3 l Z a0 hw [] sr b1 ks k1 xa xb xc h1 n0 (by omega)  F2 V1 ne3 (by omega) (by assumption) (by assumption) (by assumption)) hZ (hw _ (List.mem_of_getElem? (i := 33) rfl)) (hw _ (List.mem_of_getElem? (i := 29) rfl)) (by decide) (by decide)) (g := (mkF m 9 #[.val (.ref sr), .val (.int (0 : Int32)), .val (.int (3 : Int32)), .val (.ref b1), .unset, .unset] [(.int (3 : Int32)), (.int (0 : Int32)), (.ref b1), (.int (0 : Int32)), (.ref sr)])) rfl (by rw [hml]; rfl) (argsL := [(.ref sr), (.int (0 : Int32)), (.ref b1), (.int (0 : Int32)), (.int (3 : Int32))]) (rest := []) (lenOf pd_0 rfl) rfl (by show 2 * 0 + _ ≤ _; exact Nat.le_of_eq rfl) (hb hby d5_9) (fun _ _ => ⟨rfl, e1, (by decide : 1 + 0 ≤ _), (by decide : 3 + 0 ≤ _)⟩)
  dsimp only [Pt.U, Pt.locs, Pt.cells, Pt.slots] at X4 l4 y4 z4 st4 hQ4
  subst l4 y4 z4
  obtain ⟨rfl, Nq4, Kq4, P4_0⟩ := hQ4
  have N4 := Fr.app N0 Nq4
  have z4k : h1.size ≤ T4.heap.size := Kq4.1
  have gz5 : h0.size ≤ b1 := by omega
  have K4 : Keep h0 T4.heap [] := K1.trans Kq4 (allS (Or.inr gz5) all0)
  refine Comes.st st4 ?_
  have lt_6 : b1 < T4.heap.size := P4_0.lt
  show Comes p e below _ (T4.setTop (mkF m 12 #[.val (.ref sr), .val (.int (0 : Int32)), .val (.int (3 : Int32)), .val (.ref b1), .unset, .unset] [(.int (3 : Int32))]))
  refine Comes.st (fun t k => XS.istore X4.here hx rfl (hb hby d5_12) rfl (l' := #[.val (.ref sr), .val (.int (0 : Int32)), .val (.int (3 : Int32)), .val (.ref b1), .val (.int (3 : Int32)), .unset]) rfl (XS.iload X4.here hx rfl (hb hby d5_14) rfl (XS.iloadN X4.here hx rfl (hb hby d5_16) rfl k))) ?_
  show Comes p e below _ (T4.setTop (mkF m 17 #[.val (.ref sr), .val (.int (0 : Int32)), .val (.int (3 : Int32)), .val (.ref b1), .val (.int (3 : Int32)), .unset] [(.int (3 : Int32)), (.int (3 : Int32))]))
  have hc17_7 : (3 : Int32) = (3 : Int32) := by decide
  refine Comes.st (fun t k => XS.icmpYes X4.here hx rfl (pc0 := 17) (pc' := 57) rfl (hb hby d5_17) rfl (teq hc17_7).1 (by decide) (by decide) (XS.aloadN X4.here hx rfl (hb hby d5_57) rfl rfl k)) ?_
  show Comes p e below _ (T4.setTop (mkF m 58 #[.val (.ref sr), .val (.int (0 : Int32)), .val (.int (3 : Int32)), .val (.ref b1), .val (.int (3 : Int32)), .unset] [(.ref b1)]))
  exact Comes.retV X4 hx Bd.returns (narrow_ref rfl) (Or.inr (Or.inr (Or.inr (Or.inr ⟨rfl, rfl, rfl⟩)))) hlk (hb hby d5_58) rfl ⟨b1, k1, rfl, N4, K4, P4_0, (by omega)⟩ (by decide) (by decide)
def Q_cod3 (Z : State) (ar : Nat) (ka : ClassId) (xa xb xc : Int32) (h0 : Heap) (n0 : Nat) (v_ : Option Value) (h : Heap) (L_ : List Loc) : Prop := (v_ = some (.int (0 : Int32))) ∧ (Fr n0 L_) ∧ (h = h0)
set_option maxRecDepth 65536 in
set_option maxHeartbeats 40000000 in
theorem cod3 (l : Launch) (Z : State) (a0 : Array Value) (hw : ∀ d ∈ tables_1, d.before a0 Z = true) (ws : List Jvm.Cond) (ar : Nat) (ka : ClassId) (xa xb xc : Int32) (h0 : Heap) (n0 : Nat) (Z0 : n0 ≤ h0.size) (G0 : Arv Z h0 ar ka .byte (3 : Int32) [(.int xa), (.int xb), (.int xc)] (.int (0 : Int32))) :
    MetFree l (⟨"java/lang/StringUTF16", "coderFromArrayLen", "([BI)B"⟩ : MethodName) (head1 (Jvm.Cond.code (⟨"java/lang/StringUTF16", "coderFromArrayLen", "([BI)B"⟩ : MethodName) jdk_52_method_15_code 2 (some .byte) :: ws) ({ frames := 0, cells := 0, slots := 0, locals := 0 } : Room)) (fun a_ U_ => a_ = #[(.ref ar), (.int (3 : Int32))] ∧ Z.Warmed39 U_.vm ∧ U_.heap = h0) (fun _ _ _ _ _ => True) (fun _ U_ o_ V_ => ∃ v_ L_, o_ = .returned v_ ∧ Q_cod3 Z ar ka xa xb xc h0 n0 v_ V_.heap L_ ∧ FrameEnd U_ o_ V_ L_ ({ frames := 0, cells := 0, slots := 0, locals := 0 } : Room).cells ({ frames := 0, cells := 0, slots := 0, locals := 0 } : Room).slots) := by
  refine MetFree.of_bodySF (plainFor_of_name pn_7) hisR ?_
  intro p e s m args below meth c s₁ Bd hml0 hP hK
  obtain ⟨rfl, hZ, hh⟩ := hP
  have hx := Bd.exec
  have hby := Bd.bytes
  have hml : c.maxLocals = 2 := hml0
  have hown : s.vm.findClass "java/lang/StringUTF16" = some m.cls := findClass_of_methodNamed Bd.named
  have hnm := (name_of_methodNamed Bd.named Bd.method).1
  have hlk : meth.locks = false := Bd.notSynchronized
  have X0 : Stand p l e ({ frames := 0, cells := 0, slots := 0, locals := 0 } : Room) s m #[(.ref ar), (.int (3 : Int32))] below meth c s₁ [] 0 0 := Stand.of_body Bd
  have e0 : s₁.heap = h0 := by rw [← hh, Bd.state]; rfl
  have N0 := Fr.nil n0
  refine Comes.out (Q := Q_cod3 Z ar ka xa xb xc h0 n0) (kc := ({ frames := 0, cells := 0, slots := 0, locals := 0 } : Room).cells) (ks := ({ frames := 0, cells := 0, slots := 0, locals := 0 } : Room).slots) ?_
  refine Comes.cast (ef_cod3 m ar) ?_
  have lt_ar : ar < h0.size := G0.lt
  show Comes p e below _ (s₁.setTop (mkF m 0 #[.val (.ref ar), .val (.int (3 : Int32))] []))
  refine Comes.st (fun t k => XS.iloadN X0.here hx rfl (hb hby d7_0) rfl (XS.aloadN X0.here hx rfl (hb hby d7_1) rfl rfl k)) ?_
  show Comes p e below _ (s₁.setTop (mkF m 2 #[.val (.ref ar), .val (.int (3 : Int32))] [(.ref ar), (.int (3 : Int32))]))
  obtain ⟨cl1, Ar1, -, S1, Ng1, -, -⟩ := id G0
  refine Comes.st (fun t k => X0.arraylength hx (by rw [e0]; exact Ar1.1) (State.isArrayOf_alike hZ.alike Ar1.2.1) (g := (mkF m 2 #[.val (.ref ar), .val (.int (3 : Int32))] [(.ref ar), (.int (3 : Int32))])) rfl rfl (hb hby d7_2) _ k) ?_
  rw [len_of S1 Ng1]
  show Comes p e below _ (s₁.setTop (mkF m 3 #[.val (.ref ar), .val (.int (3 : Int32))] [(.int (3 : Int32)), (.int (3 : Int32))]))
  refine Comes.st (fun t k => XS.isub X0.here hx rfl (hb hby d7_3) rfl k) ?_
  show Comes p e below _ (s₁.setTop (mkF m 4 #[.val (.ref ar), .val (.int (3 : Int32))] [(.int ((3 : Int32) - (3 : Int32)))]))
  rw [show ((3 : Int32) - (3 : Int32)) = (0 : Int32) from by decide]
  show Comes p e below _ (s₁.setTop (mkF m 4 #[.val (.ref ar), .val (.int (3 : Int32))] [(.int (0 : Int32))]))
  refine Comes.st (fun t k => XS.bipush X0.here hx rfl (hb hby d7_4) (XS.iushr X0.here hx rfl (hb hby d7_6) rfl k)) ?_
  show Comes p e below _ (s₁.setTop (mkF m 7 #[.val (.ref ar), .val (.int (3 : Int32))] [(.int (((0 : Int32).toUInt32 >>> ((31 : Int32) &&& 31).toUInt32).toInt32))]))
  rw [show (((0 : Int32).toUInt32 >>> ((31 : Int32) &&& 31).toUInt32).toInt32) = (0 : Int32) from by decide]
  show Comes p e below _ (s₁.setTop (mkF m 7 #[.val (.ref ar), .val (.int (3 : Int32))] [(.int (0 : Int32))]))
  refine Comes.st (fun t k => XS.i2b X0.here hx rfl (hb hby d7_7) rfl k) ?_
  show Comes p e below _ (s₁.setTop (mkF m 8 #[.val (.ref ar), .val (.int (3 : Int32))] [(.int ((0 : Int32).toInt8.toInt32))]))
  exact Comes.retN X0 hx (t := .byte) Bd.returns (by simp) hlk (hb hby d7_8) e0 ⟨rfl, N0, rfl⟩ (by decide) (by decide)
def Q_sin3 (Z : State) (ea sr : Nat) (ks : ClassId) (cs xa xb xc : Int32) (h0 : Heap) (n0 : Nat) (v_ : Option Value) (h : Heap) (L_ : List Loc) : Prop := ∃ (vb : Nat), ∃ (kb : ClassId), (v_ = none) ∧ (Fr n0 L_) ∧ (Keep h0 h [ea]) ∧ (Exa Z h ea "java/lang/String") ∧ (Fld Z h ea "java/lang/String" "value" "[B" (.ref vb)) ∧ (Fld Z h ea "java/lang/String" "coder" "B" (.int (0 : Int32))) ∧ (Arv Z h vb kb .byte (3 : Int32) [(.int (nar .byte (xa.toInt8.toInt32))), (.int (nar .byte (xb.toInt8.toInt32))), (.int (nar .byte (xc.toInt8.toInt32)))] (.int (0 : Int32)))
set_option maxRecDepth 65536 in
set_option maxHeartbeats 40000000 in
theorem sin3 (l : Launch) (Z : State) (a0 : Array Value) (hw : ∀ d ∈ tables_1, d.before a0 Z = true) (ws : List Jvm.Cond) (ea sr : Nat) (ks : ClassId) (cs xa xb xc : Int32) (h0 : Heap) (n0 : Nat) (Z0 : n0 ≤ h0.size) (G0 : Exa Z h0 ea "java/lang/String") (G1 : Fld Z h0 ea "java/lang/String" "value" "[B" .null) (G2 : Fld Z h0 ea "java/lang/String" "coder" "B" (.int (0 : Int32))) (G3 : Arv Z h0 sr ks .char (3 : Int32) [(.int xa), (.int xb), (.int xc)] (.int (0 : Int32))) (G4 : sr ≠ ea) (G5 : n0 ≤ ea) (G6 : Sta Z Z.heap "java/lang/String" "COMPACT_STRINGS" "Z" (.int cs)) (G7 : ¬ (cs = (0 : Int32))) (G8 : Old Z n0 h0) (G9 : 0 ≤ xa.toInt ∧ xa.toInt ≤ 255) (G10 : 0 ≤ xb.toInt ∧ xb.toInt ≤ 255) (G11 : 0 ≤ xc.toInt ∧ xc.toInt ≤ 255) :
    MetFree l (⟨"java/lang/String", "<init>", "([CIILjava/lang/Void;)V"⟩ : MethodName) (head1 (Jvm.Cond.code (⟨"java/lang/String", "<init>", "([CIILjava/lang/Void;)V"⟩ : MethodName) jdk_42_method_149_code 6 none :: ws) ({ frames := 2, cells := 1, slots := 3, locals := 35 } : Room)) (fun a_ U_ => a_ = #[(.ref ea), (.ref sr), (.int (0 : Int32)), (.int (3 : Int32)), .null] ∧ Z.Warmed39 U_.vm ∧ U_.heap = h0) (fun _ _ _ _ _ => True) (fun _ U_ o_ V_ => ∃ v_ L_, o_ = .returned v_ ∧ Q_sin3 Z ea sr ks cs xa xb xc h0 n0 v_ V_.heap L_ ∧ FrameEnd U_ o_ V_ L_ ({ frames := 2, cells := 1, slots := 3, locals := 35 } : Room).cells ({ frames := 2, cells := 1, slots := 3, locals := 35 } : Room).slots) := by
  refine MetFree.of_bodySF (plainFor_of_name pn_3) hisR ?_
  intro p e s m args below meth c s₁ Bd hml0 hP hK
  obtain ⟨rfl, hZ, hh⟩ := hP
  have hx := Bd.exec
  have hby := Bd.bytes
  have hml : c.maxLocals = 6 := hml0
  have hown : s.vm.findClass "java/lang/String" = some m.cls := findClass_of_methodNamed Bd.named
  have hnm := (name_of_methodNamed Bd.named Bd.method).1
  have hlk : meth.locks = false := Bd.notSynchronized
  have X0 : Stand p l e ({ frames := 2, cells := 1, slots := 3, locals := 35 } : Room) s m #[(.ref ea), (.ref sr), (.int (0 : Int32)), (.int (3 : Int32)), .null] below meth c s₁ [] 0 0 := Stand.of_body Bd
  have e0 : s₁.heap = h0 := by rw [← hh, Bd.state]; rfl
  have N0 := Fr.nil n0
  have K0 := Keep.refl h0 [ea]
  refine Comes.out (Q := Q_sin3 Z ea sr ks cs xa xb xc h0 n0) (kc := ({ frames := 2, cells := 1, slots := 3, locals := 35 } : Room).cells) (ks := ({ frames := 2, cells := 1, slots := 3, locals := 35 } : Room).slots) ?_
  refine Comes.cast (ef_sin3 m ea sr) ?_
  have lt_ea : ea < h0.size := G0.lt
  have lt_sr : sr < h0.size := G3.lt
  show Comes p e below _ (s₁.setTop (mkF m 0 #[.val (.ref ea), .val (.ref sr), .val (.int (0 : Int32)), .val (.int (3 : Int32)), .val .null, .unset] []))
  refine Comes.st (fun t k => XS.aloadN X0.here hx rfl (hb hby d3_0) rfl rfl k) ?_
  show Comes p e below _ (s₁.setTop (mkF m 1 #[.val (.ref ea), .val (.ref sr), .val (.int (0 : Int32)), .val (.int (3 : Int32)), .val .null, .unset] [(.ref ea)]))
  obtain ⟨T1, X1, e1, st1⟩ := initO X0 hx hZ hown (hw _ (List.mem_of_getElem? (i := 15) rfl)) (hw _ (List.mem_of_getElem? (i := 16) rfl)) (hw _ (List.mem_of_getElem? (i := 17) rfl)) e0 (g := (mkF m 1 #[.val (.ref ea), .val (.ref sr), .val (.int (0 : Int32)), .val (.int (3 : Int32)), .val .null, .unset] [(.ref ea)])) rfl (by rw [hml]; rfl) rfl (hb hby d3_1) (by decide) (W := 0) (by show 2 * 0 + _ ≤ _; exact Nat.le_of_eq rfl) (by decide)
  refine Comes.st st1 ?_
  show Comes p e below _ (T1.setTop (mkF m 4 #[.val (.ref ea), .val (.ref sr), .val (.int (0 : Int32)), .val (.int (3 : Int32)), .val .null, .unset] []))
  refine Comes.st (fun t k => XS.iloadN X1.here hx rfl (hb hby d3_4) rfl k) ?_
  show Comes p e below _ (T1.setTop (mkF m 5 #[.val (.ref ea), .val (.ref sr), .val (.int (0 : Int32)), .val (.int (3 : Int32)), .val .null, .unset] [(.int (3 : Int32))]))
  have hc5_2 : ¬ ((3 : Int32) = (0 : Int32)) := by decide
  refine Comes.st (fun t k => XS.ifYes X1.here hx rfl (pc0 := 5) (pc' := 27) rfl (hb hby d3_5) rfl ((if0 _ _).trans (feq hc5_2).2) (by decide) (by decide) k) ?_
  show Comes p e below _ (T1.setTop (mkF m 27 #[.val (.ref ea), .val (.ref sr), .val (.int (0 : Int32)), .val (.int (3 : Int32)), .val .null, .unset] []))
  obtain ⟨T3, X3, e3, st3⟩ := getS2 X1 hx hZ hown (host := "") (Or.inl (hw _ (List.mem_of_getElem? (i := 26) rfl))) Via.refl e1 (G6.ext G8.2) (g := (mkF m 27 #[.val (.ref ea), .val (.ref sr), .val (.int (0 : Int32)), .val (.int (3 : Int32)), .val .null, .unset] [])) rfl (hb hby d3_27)
  refine Comes.st st3 ?_
  show Comes p e below _ (T3.setTop (mkF m 30 #[.val (.ref ea), .val (.ref sr), .val (.int (0 : Int32)), .val (.int (3 : Int32)), .val .null, .unset] [(.int cs)]))
  have hc30_4 : ¬ (cs = (0 : Int32)) := by assumption
  refine Comes.st (fun t k => XS.ifNo X3.here hx rfl (hb hby d3_30) rfl ((if0 _ _).trans (feq hc30_4).1) (XS.aloadN X3.here hx rfl (hb hby d3_33) rfl rfl (XS.iloadN X3.here hx rfl (hb hby d3_34) rfl (XS.iloadN X3.here hx rfl (hb hby d3_35) rfl k)))) ?_
  show Comes p e below _ (T3.setTop (mkF m 36 #[.val (.ref ea), .val (.ref sr), .val (.int (0 : Int32)), .val (.int (3 : Int32)), .val .null, .unset] [(.int (3 : Int32)), (.int (0 : Int32)), (.ref sr)]))
  obtain ⟨_, _, ⟨T5, L5, k5, n5⟩, -, X5, ⟨Lc5, hQ5, l5, y5, z5⟩, st5⟩ := Jvm.LawKit.callS X3 hx (y := (⟨"java/lang/StringUTF16", "compress", "([CII)[B"⟩ : MethodName)) hown (mvT hZ (hw _ (List.mem_of_getElem? (i := 27) rfl))) (mvT hZ (hw _ (List.mem_of_getElem? (i := 28) rfl))) (mvT hZ (hw _ (List.mem_of_getElem? (i := 29) rfl))) (mvT hZ (hw _ (List.mem_of_getElem? (i := 30) rfl))) (by decide) (backOf (W := 0) (cou3 l Z a0 hw [] sr ks xa xb xc h0 n0 (by omega)  G3 (by assumption) (by assumption) (by assumption)) hZ (hw _ (List.mem_of_getElem? (i := 30) rfl)) (hw _ (List.mem_of_getElem? (i := 29) rfl)) (by decide) (by decide)) (g := (mkF m 36 #[.val (.ref ea), .val (.ref sr), .val (.int (0 : Int32)), .val (.int (3 : Int32)), .val .null, .unset] [(.int (3 : Int32)), (.int (0 : Int32)), (.ref sr)])) rfl (by rw [hml]; rfl) (argsL := [(.ref sr), (.int (0 : Int32)), (.int (3 : Int32))]) (rest := []) (lenOf pd_1 rfl) rfl (by show 2 * 0 + _ ≤ _; exact Nat.le_of_eq rfl) (hb hby d3_36) (fun _ _ => ⟨rfl, e3, (by decide : 0 + 1 ≤ _), (by decide : 0 + 3 ≤ _)⟩)
  dsimp only [Pt.U, Pt.locs, Pt.cells, Pt.slots] at X5 l5 y5 z5 st5 hQ5
  subst l5 y5 z5
  obtain ⟨o6, r7, rfl, Nq5, Kq5, P5_0, P5_1⟩ := hQ5
  have N5 := Fr.app N0 Nq5
  have z5k : h0.size ≤ T5.heap.size := Kq5.1
  have K5 : Keep h0 T5.heap [ea] := K0.trans Kq5 all0
  refine Comes.st st5 ?_
  have lt_8 : o6 < T5.heap.size := P5_0.lt
  show Comes p e below _ (T5.setTop (mkF m 39 #[.val (.ref ea), .val (.ref sr), .val (.int (0 : Int32)), .val (.int (3 : Int32)), .val .null, .unset] [(.ref o6)]))
  refine Comes.st (fun t k => XS.astore X5.here hx rfl (hb hby d3_39) rfl rfl (l' := #[.val (.ref ea), .val (.ref sr), .val (.int (0 : Int32)), .val (.int (3 : Int32)), .val .null, .val (.ref o6)]) rfl (XS.aloadN X5.here hx rfl (hb hby d3_41) rfl rfl (XS.aload X5.here hx rfl (hb hby d3_42) rfl rfl (XS.iloadN X5.here hx rfl (hb hby d3_44) rfl k)))) ?_
  show Comes p e below _ (T5.setTop (mkF m 45 #[.val (.ref ea), .val (.ref sr), .val (.int (0 : Int32)), .val (.int (3 : Int32)), .val .null, .val (.ref o6)] [(.int (3 : Int32)), (.ref o6), (.ref ea)]))
  obtain ⟨_, _, ⟨T9, L9, k9, n9⟩, -, X9, ⟨Lc9, hQ9, l9, y9, z9⟩, st9⟩ := Jvm.LawKit.callS X5 hx (y := (⟨"java/lang/StringUTF16", "coderFromArrayLen", "([BI)B"⟩ : MethodName)) hown (mvT hZ (hw _ (List.mem_of_getElem? (i := 34) rfl))) (mvT hZ (hw _ (List.mem_of_getElem? (i := 35) rfl))) (mvT hZ (hw _ (List.mem_of_getElem? (i := 29) rfl))) (mvT hZ (hw _ (List.mem_of_getElem? (i := 36) rfl))) (by decide) (backOf (W := 1) (cod3 l Z a0 hw [] o6 r7 ((nar .byte (xa.toInt8.toInt32))) ((nar .byte (xb.toInt8.toInt32))) ((nar .byte (xc.toInt8.toInt32))) T5.heap n0 (by omega)  P5_0) hZ (hw _ (List.mem_of_getElem? (i := 36) rfl)) (hw _ (List.mem_of_getElem? (i := 29) rfl)) (by decide) (by decide)) (g := (mkF m 45 #[.val (.ref ea), .val (.ref sr), .val (.int (0 : Int32)), .val (.int (3 : Int32)), .val .null, .val (.ref o6)] [(.int (3 : Int32)), (.ref o6), (.ref ea)])) rfl (by rw [hml]; rfl) (argsL := [(.ref o6), (.int (3 : Int32))]) (rest := [(.ref ea)]) (lenOf pd_2 rfl) rfl (by show 2 * 0 + _ ≤ _; exact Nat.le_of_eq rfl) (hb hby d3_45) (fun _ _ => ⟨rfl, rfl, (by decide : 1 + 0 ≤ _), (by decide : 3 + 0 ≤ _)⟩)
  dsimp only [Pt.U, Pt.locs, Pt.cells, Pt.slots] at X9 l9 y9 z9 st9 hQ9
  subst l9 y9 z9
  obtain ⟨rfl, Nq9, hs9⟩ := hQ9
  have N9 := Fr.app N5 Nq9
  refine Comes.st st9 ?_
  show Comes p e below _ (T9.setTop (mkF m 48 #[.val (.ref ea), .val (.ref sr), .val (.int (0 : Int32)), .val (.int (3 : Int32)), .val .null, .val (.ref o6)] [(.int (0 : Int32)), (.ref ea)]))
  have F10 : Exa Z T5.heap ea "java/lang/String" := (G0.keep Kq5)
  have F11 : Fld Z T5.heap ea "java/lang/String" "coder" "B" (.int (0 : Int32)) := (G2.keep Kq5 nin0)
  obtain ⟨T12, h12, X12, e12, W12, st12⟩ := putFN X9 hx hZ hown (hw _ (List.mem_of_getElem? (i := 25) rfl)) Via.refl hs9 F11 F10 (Or.inr ⟨(hw _ (List.mem_of_getElem? (i := 21) rfl)), rfl, hnm⟩) (hw _ (List.mem_of_getElem? (i := 5) rfl)) (ty := .byte) (v' := (.int (nar .byte (0 : Int32)))) (by decide) rfl (fits_nar_byte _) (g := (mkF m 48 #[.val (.ref ea), .val (.ref sr), .val (.int (0 : Int32)), .val (.int (3 : Int32)), .val .null, .val (.ref o6)] [(.int (0 : Int32)), (.ref ea)])) rfl rfl (hb hby d3_48)
  have Fw12 := F11.same W12
  rw [show (nar .byte (0 : Int32)) = (0 : Int32) from by decide] at Fw12
  have z12 : h12.size = T5.heap.size := W12.size
  have gn13 : n0 ≤ ea := by omega
  have N12 := Fr.snoc X12 N9 gn13
  have K12 : Keep h0 h12 [ea] := K5.wr W12 (Or.inl (List.mem_of_getElem? (i := 0) rfl))
  refine Comes.st st12 ?_
  show Comes p e below _ (T12.setTop (mkF m 51 #[.val (.ref ea), .val (.ref sr), .val (.int (0 : Int32)), .val (.int (3 : Int32)), .val .null, .val (.ref o6)] []))
  refine Comes.st (fun t k => XS.aloadN X12.here hx rfl (hb hby d3_51) rfl rfl (XS.aload X12.here hx rfl (hb hby d3_52) rfl rfl k)) ?_
  show Comes p e below _ (T12.setTop (mkF m 54 #[.val (.ref ea), .val (.ref sr), .val (.int (0 : Int32)), .val (.int (3 : Int32)), .val .null, .val (.ref o6)] [(.ref o6), (.ref ea)]))
  have F14 : Exa Z h12 ea "java/lang/String" := (F10.wr W12)
  have F15 : Fld Z h12 ea "java/lang/String" "value" "[B" .null := ((G1.keep Kq5 nin0).other W12 (Or.inr (slot_ne (Or.inr (hw _ (List.mem_of_getElem? (i := 20) rfl))) (Or.inr (hw _ (List.mem_of_getElem? (i := 21) rfl))) (by decide) (t := (.array .byte)) (t' := .byte) (by decide) (by decide))))
  obtain ⟨T16, h16, X16, e16, W16, st16⟩ := putF X12 hx hZ hown (host := "") (Or.inl (hw _ (List.mem_of_getElem? (i := 24) rfl))) Via.refl e12 F15 F14 (Or.inr ⟨(hw _ (List.mem_of_getElem? (i := 20) rfl)), rfl, hnm⟩) (hw _ (List.mem_of_getElem? (i := 5) rfl)) (ty := (.array .byte)) (by decide) rfl rfl (g := (mkF m 54 #[.val (.ref ea), .val (.ref sr), .val (.int (0 : Int32)), .val (.int (3 : Int32)), .val .null, .val (.ref o6)] [(.ref o6), (.ref ea)])) rfl rfl (hb hby d3_54)
  have Fw16 := F15.same W16
  have z16 : h16.size = h12.size := W16.size
  have N16 := Fr.snoc X16 N12 gn13
  have K16 : Keep h0 h16 [ea] := K12.wr W16 (Or.inl (List.mem_of_getElem? (i := 0) rfl))
  refine Comes.st st16 ?_
  show Comes p e below _ (T16.setTop (mkF m 57 #[.val (.ref ea), .val (.ref sr), .val (.int (0 : Int32)), .val (.int (3 : Int32)), .val .null, .val (.ref o6)] []))
  have F17 : Exa Z h16 ea "java/lang/String" := (F14.wr W16)
  have F18 : Fld Z h16 ea "java/lang/String" "coder" "B" (.int (0 : Int32)) := (Fw12.other W16 (Or.inr (slot_ne (Or.inr (hw _ (List.mem_of_getElem? (i := 21) rfl))) (Or.inr (hw _ (List.mem_of_getElem? (i := 20) rfl))) (by decide) (t := .byte) (t' := (.array .byte)) (by decide) (by decide))))
  have ne19 : o6 ≠ ea := by omega
  have F20 : Arv Z h16 o6 r7 .byte (3 : Int32) [(.int (nar .byte (xa.toInt8.toInt32))), (.int (nar .byte (xb.toInt8.toInt32))), (.int (nar .byte (xc.toInt8.toInt32)))] (.int (0 : Int32)) := ((P5_0.other W12 ne19).other W16 ne19)
  exact Comes.ret0 X16 hx Bd.returns hlk (hb hby d3_57) e16 ⟨o6, r7, rfl, N16, K16, F17, Fw16, F18, F20⟩ (by decide) (by decide)
def Q_sic3 (Z : State) (ea sr : Nat) (ks : ClassId) (cs xa xb xc : Int32) (h0 : Heap) (n0 : Nat) (v_ : Option Value) (h : Heap) (L_ : List Loc) : Prop := ∃ (vb : Nat), ∃ (kb : ClassId), (v_ = none) ∧ (Fr n0 L_) ∧ (Keep h0 h [ea]) ∧ (Exa Z h ea "java/lang/String") ∧ (Fld Z h ea "java/lang/String" "value" "[B" (.ref vb)) ∧ (Fld Z h ea "java/lang/String" "coder" "B" (.int (0 : Int32))) ∧ (Arv Z h vb kb .byte (3 : Int32) [(.int (nar .byte (xa.toInt8.toInt32))), (.int (nar .byte (xb.toInt8.toInt32))), (.int (nar .byte (xc.toInt8.toInt32)))] (.int (0 : Int32)))
set_option maxRecDepth 65536 in
set_option maxHeartbeats 40000000 in
theorem sic3 (l : Launch) (Z : State) (a0 : Array Value) (hw : ∀ d ∈ tables_1, d.before a0 Z = true) (ws : List Jvm.Cond) (ea sr : Nat) (ks : ClassId) (cs xa xb xc : Int32) (h0 : Heap) (n0 : Nat) (Z0 : n0 ≤ h0.size) (G0 : Exa Z h0 ea "java/lang/String") (G1 : Fld Z h0 ea "java/lang/String" "value" "[B" .null) (G2 : Fld Z h0 ea "java/lang/String" "coder" "B" (.int (0 : Int32))) (G3 : Arv Z h0 sr ks .char (3 : Int32) [(.int xa), (.int xb), (.int xc)] (.int (0 : Int32))) (G4 : sr ≠ ea) (G5 : n0 ≤ ea) (G6 : Sta Z Z.heap "java/lang/String" "COMPACT_STRINGS" "Z" (.int cs)) (G7 : ¬ (cs = (0 : Int32))) (G8 : Old Z n0 h0) (G9 : 0 ≤ xa.toInt ∧ xa.toInt ≤ 255) (G10 : 0 ≤ xb.toInt ∧ xb.toInt ≤ 255) (G11 : 0 ≤ xc.toInt ∧ xc.toInt ≤ 255) :
    MetFree l (⟨"java/lang/String", "<init>", "([C)V"⟩ : MethodName) (head1 (Jvm.Cond.code (⟨"java/lang/String", "<init>", "([C)V"⟩ : MethodName) jdk_42_method_3_code 2 none :: ws) ({ frames := 3, cells := 1, slots := 3, locals := 52 } : Room)) (fun a_ U_ => a_ = #[(.ref ea), (.ref sr)] ∧ Z.Warmed39 U_.vm ∧ U_.heap = h0) (fun _ _ _ _ _ => True) (fun _ U_ o_ V_ => ∃ v_ L_, o_ = .returned v_ ∧ Q_sic3 Z ea sr ks cs xa xb xc h0 n0 v_ V_.heap L_ ∧ FrameEnd U_ o_ V_ L_ ({ frames := 3, cells := 1, slots := 3, locals := 52 } : Room).cells ({ frames := 3, cells := 1, slots := 3, locals := 52 } : Room).slots) := by
  refine MetFree.of_bodySF (plainFor_of_name pn_2) hisR ?_
  intro p e s m args below meth c s₁ Bd hml0 hP hK
  obtain ⟨rfl, hZ, hh⟩ := hP
  have hx := Bd.exec
  have hby := Bd.bytes
  have hml : c.maxLocals = 2 := hml0
  have hown : s.vm.findClass "java/lang/String" = some m.cls := findClass_of_methodNamed Bd.named
  have hnm := (name_of_methodNamed Bd.named Bd.method).1
  have hlk : meth.locks = false := Bd.notSynchronized
  have X0 : Stand p l e ({ frames := 3, cells := 1, slots := 3, locals := 52 } : Room) s m #[(.ref ea), (.ref sr)] below meth c s₁ [] 0 0 := Stand.of_body Bd
  have e0 : s₁.heap = h0 := by rw [← hh, Bd.state]; rfl
  have N0 := Fr.nil n0
  have K0 := Keep.refl h0 [ea]
  refine Comes.out (Q := Q_sic3 Z ea sr ks cs xa xb xc h0 n0) (kc := ({ frames := 3, cells := 1, slots := 3, locals := 52 } : Room).cells) (ks := ({ frames := 3, cells := 1, slots := 3, locals := 52 } : Room).slots) ?_
  refine Comes.cast (ef_sic3 m ea sr) ?_
  have lt_ea : ea < h0.size := G0.lt
  have lt_sr : sr < h0.size := G3.lt
  show Comes p e below _ (s₁.setTop (mkF m 0 #[.val (.ref ea), .val (.ref sr)] []))
  refine Comes.st (fun t k => XS.aloadN X0.here hx rfl (hb hby d2_0) rfl rfl (XS.aloadN X0.here hx rfl (hb hby d2_1) rfl rfl (XS.iconst X0.here hx rfl (hb hby d2_2) (XS.aloadN X0.here hx rfl (hb hby d2_3) rfl rfl k)))) ?_
  show Comes p e below _ (s₁.setTop (mkF m 4 #[.val (.ref ea), .val (.ref sr)] [(.ref sr), (.int (0 : Int32)), (.ref sr), (.ref ea)]))
  obtain ⟨cl1, Ar1, -, S1, Ng1, -, -⟩ := id G3
  refine Comes.st (fun t k => X0.arraylength hx (by rw [e0]; exact Ar1.1) (State.isArrayOf_alike hZ.alike Ar1.2.1) (g := (mkF m 4 #[.val (.ref ea), .val (.ref sr)] [(.ref sr), (.int (0 : Int32)), (.ref sr), (.ref ea)])) rfl rfl (hb hby d2_4) _ k) ?_
  rw [len_of S1 Ng1]
  show Comes p e below _ (s₁.setTop (mkF m 5 #[.val (.ref ea), .val (.ref sr)] [(.int (3 : Int32)), (.int (0 : Int32)), (.ref sr), (.ref ea)]))
  refine Comes.st (fun t k => XS.aconstNull X0.here hx rfl (hb hby d2_5) k) ?_
  show Comes p e below _ (s₁.setTop (mkF m 6 #[.val (.ref ea), .val (.ref sr)] [.null, (.int (3 : Int32)), (.int (0 : Int32)), (.ref sr), (.ref ea)]))
  obtain ⟨_, _, ⟨T2, L2, k2, n2⟩, -, X2, ⟨Lc2, hQ2, l2, y2, z2⟩, st2⟩ := X0.specialBack hx (y := (⟨"java/lang/String", "<init>", "([CIILjava/lang/Void;)V"⟩ : MethodName)) rfl hown (mvT hZ (hw _ (List.mem_of_getElem? (i := 11) rfl))) (mvT hZ (hw _ (List.mem_of_getElem? (i := 12) rfl))) (mvT hZ (hw _ (List.mem_of_getElem? (i := 14) rfl))) (by decide) (backOf (W := 0) (sin3 l Z a0 hw [] ea sr ks cs xa xb xc h0 n0 (by omega)  G0 G1 G2 G3 G4 (by omega) G6 (by assumption) G8 (by assumption) (by assumption) (by assumption)) hZ (hw _ (List.mem_of_getElem? (i := 14) rfl)) (hw _ (List.mem_of_getElem? (i := 6) rfl)) (by decide) (by decide)) (g := (mkF m 6 #[.val (.ref ea), .val (.ref sr)] [.null, (.int (3 : Int32)), (.int (0 : Int32)), (.ref sr), (.ref ea)])) rfl (by rw [hml]; rfl) (Steps.refl _) (a := ea) (argsL := [(.ref sr), (.int (0 : Int32)), (.int (3 : Int32)), .null]) (rest := []) (lenOf pd_3 rfl) rfl (by show 2 * 0 + _ ≤ _; exact Nat.le_of_eq rfl) (hb hby d2_6) (fun _ _ => ⟨rfl, e0, (by decide : 0 + 1 ≤ _), (by decide : 0 + 3 ≤ _)⟩)
  dsimp only [Pt.U, Pt.locs, Pt.cells, Pt.slots] at X2 l2 y2 z2 st2 hQ2
  subst l2 y2 z2
  obtain ⟨o3, r4, rfl, Nq2, Kq2, P2_0, P2_1, P2_2, P2_3⟩ := hQ2
  have N2 := Fr.app N0 Nq2
  have z2k : h0.size ≤ T2.heap.size := Kq2.1
  have K2 : Keep h0 T2.heap [ea] := K0.trans Kq2 (allS (Or.inl (List.mem_of_getElem? (i := 0) rfl)) all0)
  refine Comes.go st2 ?_
  have lt_5 : o3 < T2.heap.size := P2_3.lt
  show Comes p e below _ (T2.setTop (mkF m 9 #[.val (.ref ea), .val (.ref sr)] []))
  exact Comes.ret0 X2 hx Bd.returns hlk (hb hby d2_9) rfl ⟨o3, r4, rfl, N2, K2, P2_0, P2_1, P2_2, P2_3⟩ (by decide) (by decide)
def Q_mk3 (Z : State) (xa xb xc cs : Int32) (h0 : Heap) (n0 : Nat) (v_ : Option Value) (h : Heap) (L_ : List Loc) : Prop := ∃ (r : Nat), ∃ (vb : Nat), ∃ (kb : ClassId), (v_ = some (.ref r)) ∧ (Fr n0 L_) ∧ (Keep h0 h []) ∧ (Exa Z h r "java/lang/String") ∧ (Fld Z h r "java/lang/String" "value" "[B" (.ref vb)) ∧ (Fld Z h r "java/lang/String" "coder" "B" (.int (0 : Int32))) ∧ (Arv Z h vb kb .byte (3 : Int32) [(.int (nar .byte ((nar .char xa).toInt8.toInt32))), (.int (nar .byte ((nar .char xb).toInt8.toInt32))), (.int (nar .byte ((nar .char xc).toInt8.toInt32)))] (.int (0 : Int32))) ∧ (h0.size ≤ r)
set_option maxRecDepth 65536 in
set_option maxHeartbeats 40000000 in
theorem mk3 (l : Launch) (Z : State) (a0 : Array Value) (hw : ∀ d ∈ tables_1, d.before a0 Z = true) (ws : List Jvm.Cond) (xa xb xc cs : Int32) (h0 : Heap) (n0 : Nat) (Z0 : n0 ≤ h0.size) (G0 : Sta Z Z.heap "java/lang/String" "COMPACT_STRINGS" "Z" (.int cs)) (G1 : ¬ (cs = (0 : Int32))) (G2 : Old Z n0 h0) (G3 : 0 ≤ xa.toInt ∧ xa.toInt ≤ 255) (G4 : 0 ≤ xb.toInt ∧ xb.toInt ≤ 255) (G5 : 0 ≤ xc.toInt ∧ xc.toInt ≤ 255) :
    MetFree l (⟨"com/example/soft_throttle/softthrottle/usage/RequestCountEqualsPinLaw", "mk", "(ICCC)Ljava/lang/String;"⟩ : MethodName) (head1 (Jvm.Cond.code (⟨"com/example/soft_throttle/softthrottle/usage/RequestCountEqualsPinLaw", "mk", "(ICCC)Ljava/lang/String;"⟩ : MethodName) method_2_code 4 (some (.object "java/lang/String")) :: ws) ({ frames := 4, cells := 6, slots := 12, locals := 66 } : Room)) (fun a_ U_ => a_ = #[(.int (3 : Int32)), (.int xa), (.int xb), (.int xc)] ∧ Z.Warmed39 U_.vm ∧ U_.heap = h0) (fun _ _ _ _ _ => True) (fun _ U_ o_ V_ => ∃ v_ L_, o_ = .returned v_ ∧ Q_mk3 Z xa xb xc cs h0 n0 v_ V_.heap L_ ∧ FrameEnd U_ o_ V_ L_ ({ frames := 4, cells := 6, slots := 12, locals := 66 } : Room).cells ({ frames := 4, cells := 6, slots := 12, locals := 66 } : Room).slots) := by
  refine MetFree.of_bodySF (plainFor_of_name pn_1) hisR ?_
  intro p e s m args below meth c s₁ Bd hml0 hP hK
  obtain ⟨rfl, hZ, hh⟩ := hP
  have hx := Bd.exec
  have hby := Bd.bytes
  have hml : c.maxLocals = 4 := hml0
  have hown : s.vm.findClass "com/example/soft_throttle/softthrottle/usage/RequestCountEqualsPinLaw" = some m.cls := findClass_of_methodNamed Bd.named
  have hnm := (name_of_methodNamed Bd.named Bd.method).1
  have hlk : meth.locks = false := Bd.notSynchronized
  have X0 : Stand p l e ({ frames := 4, cells := 6, slots := 12, locals := 66 } : Room) s m #[(.int (3 : Int32)), (.int xa), (.int xb), (.int xc)] below meth c s₁ [] 0 0 := Stand.of_body Bd
  have e0 : s₁.heap = h0 := by rw [← hh, Bd.state]; rfl
  have N0 := Fr.nil n0
  have K0 := Keep.refl h0 []
  refine Comes.out (Q := Q_mk3 Z xa xb xc cs h0 n0) (kc := ({ frames := 4, cells := 6, slots := 12, locals := 66 } : Room).cells) (ks := ({ frames := 4, cells := 6, slots := 12, locals := 66 } : Room).slots) ?_
  refine Comes.cast (ef_mk3 m xa xb xc) ?_
  show Comes p e below _ (s₁.setTop (mkF m 0 #[.val (.int (3 : Int32)), .val (.int xa), .val (.int xb), .val (.int xc)] []))
  refine Comes.st (fun t k => XS.iloadN X0.here hx rfl (hb hby d1_0) rfl k) ?_
  show Comes p e below _ (s₁.setTop (mkF m 1 #[.val (.int (3 : Int32)), .val (.int xa), .val (.int xb), .val (.int xc)] [(.int (3 : Int32))]))
  have hc1_1 : ¬ ((3 : Int32) = (0 : Int32)) := by decide
  refine Comes.st (fun t k => XS.ifYes X0.here hx rfl (pc0 := 1) (pc' := 15) rfl (hb hby d1_1) rfl ((if0 _ _).trans (feq hc1_1).2) (by decide) (by decide) (XS.iloadN X0.here hx rfl (hb hby d1_15) rfl (XS.iconst X0.here hx rfl (hb hby d1_16) k))) ?_
  show Comes p e below _ (s₁.setTop (mkF m 17 #[.val (.int (3 : Int32)), .val (.int xa), .val (.int xb), .val (.int xc)] [(.int (1 : Int32)), (.int (3 : Int32))]))
  have hc17_2 : ¬ ((3 : Int32) = (1 : Int32)) := by decide
  refine Comes.st (fun t k => XS.icmpYes X0.here hx rfl (pc0 := 17) (pc' := 35) rfl (hb hby d1_17) rfl (feq hc17_2).2 (by decide) (by decide) (XS.iloadN X0.here hx rfl (hb hby d1_35) rfl (XS.iconst X0.here hx rfl (hb hby d1_36) k))) ?_
  show Comes p e below _ (s₁.setTop (mkF m 37 #[.val (.int (3 : Int32)), .val (.int xa), .val (.int xb), .val (.int xc)] [(.int (2 : Int32)), (.int (3 : Int32))]))
  have hc37_3 : ¬ ((3 : Int32) = (2 : Int32)) := by decide
  refine Comes.st (fun t k => XS.icmpYes X0.here hx rfl (pc0 := 37) (pc' := 59) rfl (hb hby d1_37) rfl (feq hc37_3).2 (by decide) (by decide) k) ?_
  show Comes p e below _ (s₁.setTop (mkF m 59 #[.val (.int (3 : Int32)), .val (.int xa), .val (.int xb), .val (.int xc)] []))
  obtain ⟨T4, h4, X4, e4, E4, A4, D4, -, st4⟩ := newO X0 hx hZ hown (hw _ (List.mem_of_getElem? (i := 4) rfl)) (hw _ (List.mem_of_getElem? (i := 5) rfl)) (hw _ (List.mem_of_getElem? (i := 6) rfl)) e0 (g := (mkF m 59 #[.val (.int (3 : Int32)), .val (.int xa), .val (.int xb), .val (.int xc)] [])) rfl (hb hby d1_59) (by decide) (by decide)
  obtain ⟨b4, g4⟩ : ∃ z, z = h0.size := ⟨_, rfl⟩
  rw [← g4] at A4 D4 st4
  have z4 : h0.size ≤ h4.size := E4.1
  have lt4 : b4 < h4.size := A4.lt
  have F5 : Fld Z h4 b4 "java/lang/String" "value" "[B" .null := D4 (Or.inr (hw _ (List.mem_of_getElem? (i := 20) rfl))) (ty := (.array .byte)) (by decide)
  have F6 : Fld Z h4 b4 "java/lang/String" "coder" "B" (.int (0 : Int32)) := D4 (Or.inr (hw _ (List.mem_of_getElem? (i := 21) rfl))) (ty := .byte) (by decide)
  have K4 : Keep h0 h4 [] := K0.ext E4
  refine Comes.st st4 ?_
  show Comes p e below _ (T4.setTop (mkF m 62 #[.val (.int (3 : Int32)), .val (.int xa), .val (.int xb), .val (.int xc)] [(.ref b4)]))
  refine Comes.st (fun t k => XS.dup X4.here hx rfl (hb hby d1_62) rfl rfl (XS.iconst X4.here hx rfl (hb hby d1_63) k)) ?_
  show Comes p e below _ (T4.setTop (mkF m 64 #[.val (.int (3 : Int32)), .val (.int xa), .val (.int xb), .val (.int xc)] [(.int (3 : Int32)), (.ref b4), (.ref b4)]))
  obtain ⟨T7, h7, k7, X7, e7, E7, A7, st7⟩ := newP X4 hx hZ (hw _ (List.mem_of_getElem? (i := 7) rfl)) e4 (g := (mkF m 64 #[.val (.int (3 : Int32)), .val (.int xa), .val (.int xb), .val (.int xc)] [(.int (3 : Int32)), (.ref b4), (.ref b4)])) rfl (hb hby d1_64) rfl (by decide) (cap := 3) (by decide) (by decide) (by decide) (by decide)
  obtain ⟨b7, g7⟩ : ∃ z, z = h4.size := ⟨_, rfl⟩
  rw [← g7] at A7 st7
  have z7 : h4.size ≤ h7.size := E7.1
  have lt7 : b7 < h7.size := A7.lt
  have V7 : Arv Z h7 b7 k7 .char (3 : Int32) [(.int (0 : Int32)), (.int (0 : Int32)), (.int (0 : Int32))] (.int (0 : Int32)) := (Arv.new A7 (by decide)).pad (pad_rep [] (.int (0 : Int32)) 3)
  have K7 : Keep h0 h7 [] := K4.ext E7
  refine Comes.st st7 ?_
  show Comes p e below _ (T7.setTop (mkF m 66 #[.val (.int (3 : Int32)), .val (.int xa), .val (.int xb), .val (.int xc)] [(.ref b7), (.ref b4), (.ref b4)]))
  refine Comes.st (fun t k => XS.dup X7.here hx rfl (hb hby d1_66) rfl rfl (XS.iconst X7.here hx rfl (hb hby d1_67) (XS.iloadN X7.here hx rfl (hb hby d1_68) rfl k))) ?_
  show Comes p e below _ (T7.setTop (mkF m 69 #[.val (.int (3 : Int32)), .val (.int xa), .val (.int xb), .val (.int xc)] [(.int xa), (.int (0 : Int32)), (.ref b7), (.ref b7), (.ref b4), (.ref b4)]))
  obtain ⟨cl8, Ar8, q8, S8, Ng8, H8, Gf8⟩ := id V7
  have hin8 : ¬ ((0 : Int32) < 0 ∨ cl8.slots.size ≤ ((0 : Int32)).toNatClampNeg) := inb_of S8 ⟨by decide, by decide⟩
  obtain ⟨T8, h8, X8, e8, W8, st8⟩ := stC X7 hx hZ e7 Ar8 (j := (0 : Int32)) hin8 (g := (mkF m 69 #[.val (.int (3 : Int32)), .val (.int xa), .val (.int xb), .val (.int xc)] [(.int xa), (.int (0 : Int32)), (.ref b7), (.ref b7), (.ref b4), (.ref b4)])) rfl rfl (hb hby d1_69)
  have V8 : Arv Z h8 b7 k7 .char (3 : Int32) [(.int (nar .char xa)), (.int (0 : Int32)), (.int (0 : Int32))] (.int (0 : Int32)) := Arv.set Ar8 q8 S8 Ng8 H8 Gf8 (fits_nar_char _) W8 0 rfl (Nat.le_of_ble_eq_true rfl)
  have z8 : h8.size = h7.size := W8.size
  have gn9 : n0 ≤ b7 := by omega
  have N8 := Fr.snoc X8 N0 gn9
  have gz10 : h0.size ≤ b7 := by omega
  have K8 : Keep h0 h8 [] := K7.wr W8 (Or.inr gz10)
  refine Comes.st st8 ?_
  show Comes p e below _ (T8.setTop (mkF m 70 #[.val (.int (3 : Int32)), .val (.int xa), .val (.int xb), .val (.int xc)] [(.ref b7), (.ref b4), (.ref b4)]))
  refine Comes.st (fun t k => XS.dup X8.here hx rfl (hb hby d1_70) rfl rfl (XS.iconst X8.here hx rfl (hb hby d1_71) (XS.iloadN X8.here hx rfl (hb hby d1_72) rfl k))) ?_
  show Comes p e below _ (T8.setTop (mkF m 73 #[.val (.int (3 : Int32)), .val (.int xa), .val (.int xb), .val (.int xc)] [(.int xb), (.int (1 : Int32)), (.ref b7), (.ref b7), (.ref b4), (.ref b4)]))
  obtain ⟨cl11, Ar11, q11, S11, Ng11, H11, Gf11⟩ := id V8
  have hin11 : ¬ ((1 : Int32) < 0 ∨ cl11.slots.size ≤ ((1 : Int32)).toNatClampNeg) := inb_of S11 ⟨by decide, by decide⟩
  obtain ⟨T11, h11, X11, e11, W11, st11⟩ := stC X8 hx hZ e8 Ar11 (j := (1 : Int32)) hin11 (g := (mkF m 73 #[.val (.int (3 : Int32)), .val (.int xa), .val (.int xb), .val (.int xc)] [(.int xb), (.int (1 : Int32)), (.ref b7), (.ref b7), (.ref b4), (.ref b4)])) rfl rfl (hb hby d1_73)
  have V11 : Arv Z h11 b7 k7 .char (3 : Int32) [(.int (nar .char xa)), (.int (nar .char xb)), (.int (0 : Int32))] (.int (0 : Int32)) := Arv.set Ar11 q11 S11 Ng11 H11 Gf11 (fits_nar_char _) W11 1 rfl (Nat.le_of_ble_eq_true rfl)
  have z11 : h11.size = h8.size := W11.size
  have N11 := Fr.snoc X11 N8 gn9
  have K11 : Keep h0 h11 [] := K8.wr W11 (Or.inr gz10)
  refine Comes.st st11 ?_
  show Comes p e below _ (T11.setTop (mkF m 74 #[.val (.int (3 : Int32)), .val (.int xa), .val (.int xb), .val (.int xc)] [(.ref b7), (.ref b4), (.ref b4)]))
  refine Comes.st (fun t k => XS.dup X11.here hx rfl (hb hby d1_74) rfl rfl (XS.iconst X11.here hx rfl (hb hby d1_75) (XS.iloadN X11.here hx rfl (hb hby d1_76) rfl k))) ?_
  show Comes p e below _ (T11.setTop (mkF m 77 #[.val (.int (3 : Int32)), .val (.int xa), .val (.int xb), .val (.int xc)] [(.int xc), (.int (2 : Int32)), (.ref b7), (.ref b7), (.ref b4), (.ref b4)]))
  obtain ⟨cl12, Ar12, q12, S12, Ng12, H12, Gf12⟩ := id V11
  have hin12 : ¬ ((2 : Int32) < 0 ∨ cl12.slots.size ≤ ((2 : Int32)).toNatClampNeg) := inb_of S12 ⟨by decide, by decide⟩
  obtain ⟨T12, h12, X12, e12, W12, st12⟩ := stC X11 hx hZ e11 Ar12 (j := (2 : Int32)) hin12 (g := (mkF m 77 #[.val (.int (3 : Int32)), .val (.int xa), .val (.int xb), .val (.int xc)] [(.int xc), (.int (2 : Int32)), (.ref b7), (.ref b7), (.ref b4), (.ref b4)])) rfl rfl (hb hby d1_77)
  have V12 : Arv Z h12 b7 k7 .char (3 : Int32) [(.int (nar .char xa)), (.int (nar .char xb)), (.int (nar .char xc))] (.int (0 : Int32)) := Arv.set Ar12 q12 S12 Ng12 H12 Gf12 (fits_nar_char _) W12 2 rfl (Nat.le_of_ble_eq_true rfl)
  have z12 : h12.size = h11.size := W12.size
  have N12 := Fr.snoc X12 N11 gn9
  have K12 : Keep h0 h12 [] := K11.wr W12 (Or.inr gz10)
  refine Comes.st st12 ?_
  show Comes p e below _ (T12.setTop (mkF m 78 #[.val (.int (3 : Int32)), .val (.int xa), .val (.int xb), .val (.int xc)] [(.ref b7), (.ref b4), (.ref b4)]))
  have F13 : Exa Z h12 b4 "java/lang/String" := ((((A4.ext E7).wr W8).wr W11).wr W12)
  have ne14 : b4 ≠ b7 := by omega
  have F15 : Fld Z h12 b4 "java/lang/String" "value" "[B" .null := ((((F5.ext E7).other W8 (Or.inl ne14)).other W11 (Or.inl ne14)).other W12 (Or.inl ne14))
  have F16 : Fld Z h12 b4 "java/lang/String" "coder" "B" (.int (0 : Int32)) := ((((F6.ext E7).other W8 (Or.inl ne14)).other W11 (Or.inl ne14)).other W12 (Or.inl ne14))
  have Od17 : Old Z n0 h12 := (((((G2.ext E4).ext E7).wr W8 (by omega)).wr W11 (by omega)).wr W12 (by omega))
  obtain ⟨_, _, ⟨T18, L18, k18, n18⟩, -, X18, ⟨Lc18, hQ18, l18, y18, z18⟩, st18⟩ := X12.specialBack hx (y := (⟨"java/lang/String", "<init>", "([C)V"⟩ : MethodName)) rfl hown (mvT hZ (hw _ (List.mem_of_getElem? (i := 8) rfl))) (mvT hZ (hw _ (List.mem_of_getElem? (i := 9) rfl))) (mvT hZ (hw _ (List.mem_of_getElem? (i := 10) rfl))) (by decide) (backOf (W := 1) (sic3 l Z a0 hw [] b4 b7 k7 cs ((nar .char xa)) ((nar .char xb)) ((nar .char xc)) h12 n0 (by omega)  F13 F15 F16 V12 (Ne.symm ne14) (by omega) G0 (by first | assumption | (rw [own_char (by assumption)]; assumption)) Od17 (by first | assumption | (rw [own_char (by assumption)]; assumption)) (by first | assumption | (rw [own_char (by assumption)]; assumption)) (by first | assumption | (rw [own_char (by assumption)]; assumption))) hZ (hw _ (List.mem_of_getElem? (i := 10) rfl)) (hw _ (List.mem_of_getElem? (i := 6) rfl)) (by decide) (by decide)) (g := (mkF m 78 #[.val (.int (3 : Int32)), .val (.int xa), .val (.int xb), .val (.int xc)] [(.ref b7), (.ref b4), (.ref b4)])) rfl (by rw [hml]; rfl) (Steps.refl _) (a := b4) (argsL := [(.ref b7)]) (rest := [(.ref b4)]) (lenOf pd_4 rfl) rfl (by show 2 * 0 + _ ≤ _; exact Nat.le_of_eq rfl) (hb hby d1_78) (fun _ _ => ⟨rfl, e12, (by decide : 2 + 1 ≤ _), (by decide : 7 + 3 ≤ _)⟩)
  dsimp only [Pt.U, Pt.locs, Pt.cells, Pt.slots] at X18 l18 y18 z18 st18 hQ18
  subst l18 y18 z18
  obtain ⟨o19, r20, rfl, Nq18, Kq18, P18_0, P18_1, P18_2, P18_3⟩ := hQ18
  have N18 := Fr.app N12 Nq18
  have z18k : h12.size ≤ T18.heap.size := Kq18.1
  have gz21 : h0.size ≤ b4 := by omega
  have K18 : Keep h0 T18.heap [] := K12.trans Kq18 (allS (Or.inr gz21) all0)
  refine Comes.go st18 ?_
  have lt_22 : b4 < T18.heap.size := P18_0.lt
  have lt_23 : o19 < T18.heap.size := P18_3.lt
  show Comes p e below _ (T18.setTop (mkF m 81 #[.val (.int (3 : Int32)), .val (.int xa), .val (.int xb), .val (.int xc)] [(.ref b4)]))
  exact Comes.retV X18 hx Bd.returns (narrow_ref rfl) (Or.inr (Or.inr (Or.inr (Or.inr ⟨rfl, rfl, rfl⟩)))) hlk (hb hby d1_81) rfl ⟨b4, o19, r20, rfl, N18, K18, P18_0, P18_1, P18_2, P18_3, (by omega)⟩ (by decide) (by decide)
def Q_sin0 (Z : State) (ea sr : Nat) (ks : ClassId) (h0 : Heap) (n0 : Nat) (v_ : Option Value) (h : Heap) (L_ : List Loc) : Prop := ∃ (vb : Nat), ∃ (kb : ClassId), (v_ = none) ∧ (Fr n0 L_) ∧ (Keep h0 h [ea]) ∧ (Exa Z h ea "java/lang/String") ∧ (Fld Z h ea "java/lang/String" "value" "[B" (.ref vb)) ∧ (Fld Z h ea "java/lang/String" "coder" "B" (.int (0 : Int32))) ∧ (Arv Z h vb kb .byte (0 : Int32) [] (.int (0 : Int32)))
set_option maxRecDepth 65536 in
set_option maxHeartbeats 40000000 in
theorem sin0 (l : Launch) (Z : State) (a0 : Array Value) (hw : ∀ d ∈ tables_1, d.before a0 Z = true) (ws : List Jvm.Cond) (ea sr : Nat) (ks : ClassId) (h0 : Heap) (n0 : Nat) (Z0 : n0 ≤ h0.size) (G0 : Exa Z h0 ea "java/lang/String") (G1 : Fld Z h0 ea "java/lang/String" "value" "[B" .null) (G2 : Fld Z h0 ea "java/lang/String" "coder" "B" (.int (0 : Int32))) (G3 : Arv Z h0 sr ks .char (0 : Int32) [] (.int (0 : Int32))) (G4 : sr ≠ ea) (G5 : n0 ≤ ea) :
    MetFree l (⟨"java/lang/String", "<init>", "([CIILjava/lang/Void;)V"⟩ : MethodName) (head1 (Jvm.Cond.code (⟨"java/lang/String", "<init>", "([CIILjava/lang/Void;)V"⟩ : MethodName) jdk_42_method_149_code 6 none :: ws) ({ frames := 1, cells := 4, slots := 8, locals := 12 } : Room)) (fun a_ U_ => a_ = #[(.ref ea), (.ref sr), (.int (0 : Int32)), (.int (0 : Int32)), .null] ∧ Z.Warmed39 U_.vm ∧ U_.heap = h0 ∧ CHv Z consts_1 U_.vm h0) (fun _ _ _ _ _ => True) (fun _ U_ o_ V_ => ∃ v_ L_, o_ = .returned v_ ∧ Q_sin0 Z ea sr ks h0 n0 v_ V_.heap L_ ∧ CHr Z consts_1 U_.vm U_.heap V_.vm V_.heap ∧ ReturnedEndW U_ o_ V_ L_ ({ frames := 1, cells := 4, slots := 8, locals := 12 } : Room).cells ({ frames := 1, cells := 4, slots := 8, locals := 12 } : Room).slots) := by
  refine MetFree.of_bodySF (plainFor_of_name pn_3) hisR ?_
  intro p e s m args below meth c s₁ Bd hml0 hP hK
  obtain ⟨rfl, hZ, hh, hC0⟩ := hP
  have hx := Bd.exec
  have hby := Bd.bytes
  have hml : c.maxLocals = 6 := hml0
  have hown : s.vm.findClass "java/lang/String" = some m.cls := findClass_of_methodNamed Bd.named
  have hnm := (name_of_methodNamed Bd.named Bd.method).1
  have hlk : meth.locks = false := Bd.notSynchronized
  have X0 : Stand p l e ({ frames := 1, cells := 4, slots := 8, locals := 12 } : Room) s m #[(.ref ea), (.ref sr), (.int (0 : Int32)), (.int (0 : Int32)), .null] below meth c s₁ [] 0 0 := Stand.of_body Bd
  have e0 : s₁.heap = h0 := by rw [← hh, Bd.state]; rfl
  have N0 := Fr.nil n0
  have X0 := own_base X0
  have hZ : Z.Warmed39 (s.setVm s.vm).vm := hZ
  have C0 := CHr.refl hC0
  have hS0 : s.Since s.vm 0 := (State.WarmedH.refl s).since 0
  have K0 := Keep.refl h0 [ea]
  refine Comes.outH (EL := consts_1) (Z := Z) (Q := Q_sin0 Z ea sr ks h0 n0) (kc := ({ frames := 1, cells := 4, slots := 8, locals := 12 } : Room).cells) (ks := ({ frames := 1, cells := 4, slots := 8, locals := 12 } : Room).slots) ?_
  refine Comes.cast (ef_sin0 m ea sr) ?_
  have lt_ea : ea < h0.size := G0.lt
  have lt_sr : sr < h0.size := G3.lt
  show Comes p e below _ (s₁.setTop (mkF m 0 #[.val (.ref ea), .val (.ref sr), .val (.int (0 : Int32)), .val (.int (0 : Int32)), .val .null, .unset] []))
  refine Comes.st (fun t k => XS.aloadN X0.here hx rfl (hb hby d3_0) rfl rfl k) ?_
  show Comes p e below _ (s₁.setTop (mkF m 1 #[.val (.ref ea), .val (.ref sr), .val (.int (0 : Int32)), .val (.int (0 : Int32)), .val .null, .unset] [(.ref ea)]))
  obtain ⟨T1, X1, e1, st1⟩ := initO X0 hx hZ hown (hw _ (List.mem_of_getElem? (i := 15) rfl)) (hw _ (List.mem_of_getElem? (i := 16) rfl)) (hw _ (List.mem_of_getElem? (i := 17) rfl)) e0 (g := (mkF m 1 #[.val (.ref ea), .val (.ref sr), .val (.int (0 : Int32)), .val (.int (0 : Int32)), .val .null, .unset] [(.ref ea)])) rfl (by rw [hml]; rfl) rfl (hb hby d3_1) (by decide) (W := 0) (by show 2 * 0 + _ ≤ _; exact Nat.le_of_eq rfl) (by decide)
  refine Comes.st st1 ?_
  show Comes p e below _ (T1.setTop (mkF m 4 #[.val (.ref ea), .val (.ref sr), .val (.int (0 : Int32)), .val (.int (0 : Int32)), .val .null, .unset] []))
  refine Comes.st (fun t k => XS.iloadN X1.here hx rfl (hb hby d3_4) rfl k) ?_
  show Comes p e below _ (T1.setTop (mkF m 5 #[.val (.ref ea), .val (.ref sr), .val (.int (0 : Int32)), .val (.int (0 : Int32)), .val .null, .unset] [(.int (0 : Int32))]))
  have hc5_2 : (0 : Int32) = (0 : Int32) := by decide
  refine Comes.st (fun t k => XS.ifNo X1.here hx rfl (hb hby d3_5) rfl ((if0 _ _).trans (teq hc5_2).2) (XS.aloadN X1.here hx rfl (hb hby d3_8) rfl rfl k)) ?_
  have sf4 : Safe Z consts_1 s.vm h0 ea := own_safe hZ.alike G0 G1
  obtain ⟨b3, T3, h3, k3, v3, q3, X3, e3, E3, hS3, hk3, hZ, hown, A3, Fc3, Fv3, V3, lt3, lv3, Ca3, -, Sn3, st3⟩ := ldcCH (s := s) (vm0 := s.vm) X1 hx hZ hown (hw _ (List.mem_of_getElem? (i := 18) rfl)) (fun d hd => by simp only [Bundle.stringAtoms, List.mem_cons, List.not_mem_nil, or_false] at hd; rcases hd with rfl | rfl | rfl | rfl | rfl | rfl | rfl; exact hw _ (List.mem_of_getElem? (i := 6) rfl); exact hw _ (List.mem_of_getElem? (i := 5) rfl); exact hw _ (List.mem_of_getElem? (i := 19) rfl); exact hw _ (List.mem_of_getElem? (i := 20) rfl); exact hw _ (List.mem_of_getElem? (i := 21) rfl); exact hw _ (List.mem_of_getElem? (i := 22) rfl); exact hw _ (List.mem_of_getElem? (i := 23) rfl)) e1 hS0 (Nat.zero_le _) (own_EW hw) (List.mem_of_getElem? (i := 1) rfl) C0.1 (vs := []) (z := (0 : Int32)) ⟨by decide, by decide⟩ (by decide) (by decide) (g := (mkF m 9 #[.val (.ref ea), .val (.ref sr), .val (.int (0 : Int32)), .val (.int (0 : Int32)), .val .null, .unset] [(.ref ea)])) rfl (hb hby d3_9) (n := 0) (by decide) (by decide) (by decide) (by decide)
  have z3 : h0.size ≤ h3.size := E3.1
  have C3 := C0.trans Ca3
  have lsf5 : ea < h0.size := by omega
  have sf5 := Ca3.safe lsf5 sf4
  have K3 : Keep h0 h3 [ea] := K0.ext E3
  refine Comes.st st3 ?_
  show Comes p e below _ (T3.setTop (mkF m 11 #[.val (.ref ea), .val (.ref sr), .val (.int (0 : Int32)), .val (.int (0 : Int32)), .val .null, .unset] [(.ref b3), (.ref ea)]))
  obtain ⟨T6, X6, e6, st6⟩ := getF X3 hx hZ hown (host := "") (Or.inl (hw _ (List.mem_of_getElem? (i := 24) rfl))) Via.refl e3 Fv3 (g := (mkF m 11 #[.val (.ref ea), .val (.ref sr), .val (.int (0 : Int32)), .val (.int (0 : Int32)), .val .null, .unset] [(.ref b3), (.ref ea)])) rfl rfl (hb hby d3_11)
  refine Comes.st st6 ?_
  show Comes p e below _ (T6.setTop (mkF m 14 #[.val (.ref ea), .val (.ref sr), .val (.int (0 : Int32)), .val (.int (0 : Int32)), .val .null, .unset] [(.ref v3), (.ref ea)]))
  have F7 : Exa Z h3 ea "java/lang/String" := (G0.ext E3)
  have F8 : Fld Z h3 ea "java/lang/String" "value" "[B" .null := (G1.ext E3)
  obtain ⟨T9, h9, X9, e9, W9, st9⟩ := putF X6 hx hZ hown (host := "") (Or.inl (hw _ (List.mem_of_getElem? (i := 24) rfl))) Via.refl e6 F8 F7 (Or.inr ⟨(hw _ (List.mem_of_getElem? (i := 20) rfl)), rfl, hnm⟩) (hw _ (List.mem_of_getElem? (i := 5) rfl)) (ty := (.array .byte)) (by decide) rfl rfl (g := (mkF m 14 #[.val (.ref ea), .val (.ref sr), .val (.int (0 : Int32)), .val (.int (0 : Int32)), .val .null, .unset] [(.ref v3), (.ref ea)])) rfl rfl (hb hby d3_14)
  have Fw9 := F8.same W9
  have Ca9 := CHr.wr W9 sf5 C3.1
  have z9 : h9.size = h3.size := W9.size
  have C9 := C3.trans Ca9
  have lsf10 : ea < h3.size := by omega
  have sf10 := Ca9.safe lsf10 sf5
  have gn11 : n0 ≤ ea := by omega
  have N9 := Fr.snoc X9 N0 gn11
  have K9 : Keep h0 h9 [ea] := K3.wr W9 (Or.inl (List.mem_of_getElem? (i := 0) rfl))
  refine Comes.st st9 ?_
  show Comes p e below _ (T9.setTop (mkF m 17 #[.val (.ref ea), .val (.ref sr), .val (.int (0 : Int32)), .val (.int (0 : Int32)), .val .null, .unset] []))
  refine Comes.st (fun t k => XS.aloadN X9.here hx rfl (hb hby d3_17) rfl rfl k) ?_
  obtain ⟨b12, T12, h12, k12, v12, q12, X12, e12, E12, hS12, hk12, hZ, hown, A12, Fc12, Fv12, V12, lt12, lv12, Ca12, -, Sn12, st12⟩ := ldcCH (s := s) (vm0 := T3.vm) X9 hx hZ hown (hw _ (List.mem_of_getElem? (i := 18) rfl)) (fun d hd => by simp only [Bundle.stringAtoms, List.mem_cons, List.not_mem_nil, or_false] at hd; rcases hd with rfl | rfl | rfl | rfl | rfl | rfl | rfl; exact hw _ (List.mem_of_getElem? (i := 6) rfl); exact hw _ (List.mem_of_getElem? (i := 5) rfl); exact hw _ (List.mem_of_getElem? (i := 19) rfl); exact hw _ (List.mem_of_getElem? (i := 20) rfl); exact hw _ (List.mem_of_getElem? (i := 21) rfl); exact hw _ (List.mem_of_getElem? (i := 22) rfl); exact hw _ (List.mem_of_getElem? (i := 23) rfl)) e9 hS3 (by omega) (own_EW hw) (List.mem_of_getElem? (i := 1) rfl) C9.1 (vs := []) (z := (0 : Int32)) ⟨by decide, by decide⟩ (by decide) (by decide) (g := (mkF m 18 #[.val (.ref ea), .val (.ref sr), .val (.int (0 : Int32)), .val (.int (0 : Int32)), .val .null, .unset] [(.ref ea)])) rfl (hb hby d3_18) (n := 0) (by decide) (by decide) (by decide) (by decide)
  have z12 : h9.size ≤ h12.size := E12.1
  have C12 := C9.trans Ca12
  have lsf13 : ea < h9.size := by omega
  have sf13 := Ca12.safe lsf13 sf10
  have K12 : Keep h0 h12 [ea] := K9.ext E12
  refine Comes.st st12 ?_
  show Comes p e below _ (T12.setTop (mkF m 20 #[.val (.ref ea), .val (.ref sr), .val (.int (0 : Int32)), .val (.int (0 : Int32)), .val .null, .unset] [(.ref b12), (.ref ea)]))
  obtain ⟨T14, X14, e14, st14⟩ := getF X12 hx hZ hown (host := "") (Or.inl (hw _ (List.mem_of_getElem? (i := 25) rfl))) Via.refl e12 Fc12 (g := (mkF m 20 #[.val (.ref ea), .val (.ref sr), .val (.int (0 : Int32)), .val (.int (0 : Int32)), .val .null, .unset] [(.ref b12), (.ref ea)])) rfl rfl (hb hby d3_20)
  refine Comes.st st14 ?_
  show Comes p e below _ (T14.setTop (mkF m 23 #[.val (.ref ea), .val (.ref sr), .val (.int (0 : Int32)), .val (.int (0 : Int32)), .val .null, .unset] [(.int (0 : Int32)), (.ref ea)]))
  have F15 : Exa Z h12 ea "java/lang/String" := ((F7.wr W9).ext E12)
  have F16 : Fld Z h12 ea "java/lang/String" "coder" "B" (.int (0 : Int32)) := (((G2.ext E3).other W9 (Or.inr (slot_ne (Or.inr (hw _ (List.mem_of_getElem? (i := 21) rfl))) (Or.inr (hw _ (List.mem_of_getElem? (i := 20) rfl))) (by decide) (t := .byte) (t' := (.array .byte)) (by decide) (by decide)))).ext E12)
  obtain ⟨T17, h17, X17, e17, W17, st17⟩ := putFN X14 hx hZ hown (hw _ (List.mem_of_getElem? (i := 25) rfl)) Via.refl e14 F16 F15 (Or.inr ⟨(hw _ (List.mem_of_getElem? (i := 21) rfl)), rfl, hnm⟩) (hw _ (List.mem_of_getElem? (i := 5) rfl)) (ty := .byte) (v' := (.int (nar .byte (0 : Int32)))) (by decide) rfl (fits_nar_byte _) (g := (mkF m 23 #[.val (.ref ea), .val (.ref sr), .val (.int (0 : Int32)), .val (.int (0 : Int32)), .val .null, .unset] [(.int (0 : Int32)), (.ref ea)])) rfl rfl (hb hby d3_23)
  have Fw17 := F16.same W17
  rw [show (nar .byte (0 : Int32)) = (0 : Int32) from by decide] at Fw17
  have Ca17 := CHr.wr W17 sf13 C12.1
  have z17 : h17.size = h12.size := W17.size
  have C17 := C12.trans Ca17
  have lsf18 : ea < h12.size := by omega
  have sf18 := Ca17.safe lsf18 sf13
  have N17 := Fr.snoc X17 N9 gn11
  have K17 : Keep h0 h17 [ea] := K12.wr W17 (Or.inl (List.mem_of_getElem? (i := 0) rfl))
  refine Comes.st st17 ?_
  show Comes p e below _ (T17.setTop (mkF m 26 #[.val (.ref ea), .val (.ref sr), .val (.int (0 : Int32)), .val (.int (0 : Int32)), .val .null, .unset] []))
  have F19 : Exa Z h17 ea "java/lang/String" := (F15.wr W17)
  have F20 : Fld Z h17 ea "java/lang/String" "value" "[B" (.ref v3) := ((Fw9.ext E12).other W17 (Or.inr (slot_ne (Or.inr (hw _ (List.mem_of_getElem? (i := 20) rfl))) (Or.inr (hw _ (List.mem_of_getElem? (i := 21) rfl))) (by decide) (t := (.array .byte)) (t' := .byte) (by decide) (by decide))))
  have F21 : Arv Z h17 v3 q3 .byte (0 : Int32) [] (.int 0) := (((V3.other W9 (Ne.symm (Sn3 _ sf5).2)).ext E12).other W17 (Ne.symm (Sn3 _ sf5).2))
  have hkf : k12 ≤ h17.size := by omega
  exact Comes.hret0 X17 hx Bd.returns hlk (hb hby d3_26) hS12 hkf e17 ⟨v3, q3, rfl, N17, K17, F19, F20, Fw17, F21⟩ (by decide) (by decide) (by rw [hh]; exact C17) hZ (own_EW hw)
def Q_sic0 (Z : State) (ea sr : Nat) (ks : ClassId) (h0 : Heap) (n0 : Nat) (v_ : Option Value) (h : Heap) (L_ : List Loc) : Prop := ∃ (vb : Nat), ∃ (kb : ClassId), (v_ = none) ∧ (Fr n0 L_) ∧ (Keep h0 h [ea]) ∧ (Exa Z h ea "java/lang/String") ∧ (Fld Z h ea "java/lang/String" "value" "[B" (.ref vb)) ∧ (Fld Z h ea "java/lang/String" "coder" "B" (.int (0 : Int32))) ∧ (Arv Z h vb kb .byte (0 : Int32) [] (.int (0 : Int32)))
set_option maxRecDepth 65536 in
set_option maxHeartbeats 40000000 in
theorem sic0 (l : Launch) (Z : State) (a0 : Array Value) (hw : ∀ d ∈ tables_1, d.before a0 Z = true) (ws : List Jvm.Cond) (ea sr : Nat) (ks : ClassId) (h0 : Heap) (n0 : Nat) (Z0 : n0 ≤ h0.size) (G0 : Exa Z h0 ea "java/lang/String") (G1 : Fld Z h0 ea "java/lang/String" "value" "[B" .null) (G2 : Fld Z h0 ea "java/lang/String" "coder" "B" (.int (0 : Int32))) (G3 : Arv Z h0 sr ks .char (0 : Int32) [] (.int (0 : Int32))) (G4 : sr ≠ ea) (G5 : n0 ≤ ea) :
    MetFree l (⟨"java/lang/String", "<init>", "([C)V"⟩ : MethodName) (head1 (Jvm.Cond.code (⟨"java/lang/String", "<init>", "([C)V"⟩ : MethodName) jdk_42_method_3_code 2 none :: ws) ({ frames := 2, cells := 4, slots := 8, locals := 29 } : Room)) (fun a_ U_ => a_ = #[(.ref ea), (.ref sr)] ∧ Z.Warmed39 U_.vm ∧ U_.heap = h0 ∧ CHv Z consts_1 U_.vm h0) (fun _ _ _ _ _ => True) (fun _ U_ o_ V_ => ∃ v_ L_, o_ = .returned v_ ∧ Q_sic0 Z ea sr ks h0 n0 v_ V_.heap L_ ∧ CHr Z consts_1 U_.vm U_.heap V_.vm V_.heap ∧ ReturnedEndW U_ o_ V_ L_ ({ frames := 2, cells := 4, slots := 8, locals := 29 } : Room).cells ({ frames := 2, cells := 4, slots := 8, locals := 29 } : Room).slots) := by
  refine MetFree.of_bodySF (plainFor_of_name pn_2) hisR ?_
  intro p e s m args below meth c s₁ Bd hml0 hP hK
  obtain ⟨rfl, hZ, hh, hC0⟩ := hP
  have hx := Bd.exec
  have hby := Bd.bytes
  have hml : c.maxLocals = 2 := hml0
  have hown : s.vm.findClass "java/lang/String" = some m.cls := findClass_of_methodNamed Bd.named
  have hnm := (name_of_methodNamed Bd.named Bd.method).1
  have hlk : meth.locks = false := Bd.notSynchronized
  have X0 : Stand p l e ({ frames := 2, cells := 4, slots := 8, locals := 29 } : Room) s m #[(.ref ea), (.ref sr)] below meth c s₁ [] 0 0 := Stand.of_body Bd
  have e0 : s₁.heap = h0 := by rw [← hh, Bd.state]; rfl
  have N0 := Fr.nil n0
  have X0 := own_base X0
  have hZ : Z.Warmed39 (s.setVm s.vm).vm := hZ
  have C0 := CHr.refl hC0
  have hS0 : s.Since s.vm 0 := (State.WarmedH.refl s).since 0
  have K0 := Keep.refl h0 [ea]
  refine Comes.outH (EL := consts_1) (Z := Z) (Q := Q_sic0 Z ea sr ks h0 n0) (kc := ({ frames := 2, cells := 4, slots := 8, locals := 29 } : Room).cells) (ks := ({ frames := 2, cells := 4, slots := 8, locals := 29 } : Room).slots) ?_
  refine Comes.cast (ef_sic0 m ea sr) ?_
  have lt_ea : ea < h0.size := G0.lt
  have lt_sr : sr < h0.size := G3.lt
  show Comes p e below _ (s₁.setTop (mkF m 0 #[.val (.ref ea), .val (.ref sr)] []))
  refine Comes.st (fun t k => XS.aloadN X0.here hx rfl (hb hby d2_0) rfl rfl (XS.aloadN X0.here hx rfl (hb hby d2_1) rfl rfl (XS.iconst X0.here hx rfl (hb hby d2_2) (XS.aloadN X0.here hx rfl (hb hby d2_3) rfl rfl k)))) ?_
  show Comes p e below _ (s₁.setTop (mkF m 4 #[.val (.ref ea), .val (.ref sr)] [(.ref sr), (.int (0 : Int32)), (.ref sr), (.ref ea)]))
  obtain ⟨cl1, Ar1, -, S1, Ng1, -, -⟩ := id G3
  refine Comes.st (fun t k => X0.arraylength hx (by rw [e0]; exact Ar1.1) (State.isArrayOf_alike hZ.alike Ar1.2.1) (g := (mkF m 4 #[.val (.ref ea), .val (.ref sr)] [(.ref sr), (.int (0 : Int32)), (.ref sr), (.ref ea)])) rfl rfl (hb hby d2_4) _ k) ?_
  rw [len_of S1 Ng1]
  show Comes p e below _ (s₁.setTop (mkF m 5 #[.val (.ref ea), .val (.ref sr)] [(.int (0 : Int32)), (.int (0 : Int32)), (.ref sr), (.ref ea)]))
  refine Comes.st (fun t k => XS.aconstNull X0.here hx rfl (hb hby d2_5) k) ?_
  show Comes p e below _ (s₁.setTop (mkF m 6 #[.val (.ref ea), .val (.ref sr)] [.null, (.int (0 : Int32)), (.int (0 : Int32)), (.ref sr), (.ref ea)]))
  obtain ⟨_, _, ⟨T2, L2, k2, n2⟩, -, X2, hSc2, hgr2, ⟨Lc2, hQ2, l2, y2, z2, Ca2⟩, st2⟩ := X0.specialBackS hx (y := (⟨"java/lang/String", "<init>", "([CIILjava/lang/Void;)V"⟩ : MethodName)) rfl hown (mvT hZ (hw _ (List.mem_of_getElem? (i := 11) rfl))) (mvT hZ (hw _ (List.mem_of_getElem? (i := 12) rfl))) (mvT hZ (hw _ (List.mem_of_getElem? (i := 14) rfl))) (by decide) (backOfSH (W := 0) (sin0 l Z a0 hw [] ea sr ks h0 n0 (by omega)  G0 G1 G2 G3 G4 (by omega)) hZ (hw _ (List.mem_of_getElem? (i := 14) rfl)) (hw _ (List.mem_of_getElem? (i := 6) rfl)) (by decide) (by decide) (own_EW hw) C0.1) (g := (mkF m 6 #[.val (.ref ea), .val (.ref sr)] [.null, (.int (0 : Int32)), (.int (0 : Int32)), (.ref sr), (.ref ea)])) rfl (by rw [hml]; rfl) (Steps.refl _) (a := ea) (argsL := [(.ref sr), (.int (0 : Int32)), (.int (0 : Int32)), .null]) (rest := []) (lenOf pd_3 rfl) rfl (by show 2 * 0 + _ ≤ _; exact Nat.le_of_eq rfl) (hb hby d2_6) (fun _ _ => ⟨rfl, e0, (by decide : 0 + 4 ≤ _), (by decide : 0 + 8 ≤ _)⟩)
  dsimp only [Pt.U, Pt.locs, Pt.cells, Pt.slots] at X2 hSc2 hgr2 l2 y2 z2 st2 hQ2 Ca2
  have hS2 : s.Since T2.vm T2.heap.size := foldS (T := s₁) hS0 (by rw [e0]; omega) hSc2 hgr2
  have hZ : Z.Warmed39 (s.setVm T2.vm).vm := State.Warmed39.trans (t := s.setVm s.vm) hZ hSc2.1
  have hown : (s.setVm T2.vm).vm.findClass "java/lang/String" = some m.cls := by rw [show (s.setVm T2.vm).vm = T2.vm from rfl, hSc2.1.alike.findClass]; exact hown
  have X2 := own_rebase X2
  subst l2 y2 z2
  obtain ⟨o3, r4, rfl, Nq2, Kq2, P2_0, P2_1, P2_2, P2_3⟩ := hQ2
  have N2 := Fr.app N0 Nq2
  have z2k : h0.size ≤ T2.heap.size := Kq2.1
  have C2 := C0.trans Ca2
  have K2 : Keep h0 T2.heap [ea] := K0.trans Kq2 (allS (Or.inl (List.mem_of_getElem? (i := 0) rfl)) all0)
  refine Comes.go st2 ?_
  have lt_5 : o3 < T2.heap.size := P2_3.lt
  show Comes p e below _ (T2.setTop (mkF m 9 #[.val (.ref ea), .val (.ref sr)] []))
  have hkf : T2.heap.size ≤ T2.heap.size := by omega
  exact Comes.hret0 X2 hx Bd.returns hlk (hb hby d2_9) hS2 hkf rfl ⟨o3, r4, rfl, N2, K2, P2_0, P2_1, P2_2, P2_3⟩ (by decide) (by decide) (by rw [hh]; exact C2) hZ (own_EW hw)
def Q_mk0 (Z : State) (xa xb xc : Int32) (h0 : Heap) (n0 : Nat) (v_ : Option Value) (h : Heap) (L_ : List Loc) : Prop := ∃ (r : Nat), ∃ (vb : Nat), ∃ (kb : ClassId), (v_ = some (.ref r)) ∧ (Fr n0 L_) ∧ (Keep h0 h []) ∧ (Exa Z h r "java/lang/String") ∧ (Fld Z h r "java/lang/String" "value" "[B" (.ref vb)) ∧ (Fld Z h r "java/lang/String" "coder" "B" (.int (0 : Int32))) ∧ (Arv Z h vb kb .byte (0 : Int32) [] (.int (0 : Int32))) ∧ (h0.size ≤ r)
set_option maxRecDepth 65536 in
set_option maxHeartbeats 40000000 in
theorem mk0 (l : Launch) (Z : State) (a0 : Array Value) (hw : ∀ d ∈ tables_1, d.before a0 Z = true) (ws : List Jvm.Cond) (xa xb xc : Int32) (h0 : Heap) (n0 : Nat) (Z0 : n0 ≤ h0.size) :
    MetFree l (⟨"com/example/soft_throttle/softthrottle/usage/RequestCountEqualsPinLaw", "mk", "(ICCC)Ljava/lang/String;"⟩ : MethodName) (head1 (Jvm.Cond.code (⟨"com/example/soft_throttle/softthrottle/usage/RequestCountEqualsPinLaw", "mk", "(ICCC)Ljava/lang/String;"⟩ : MethodName) method_2_code 4 (some (.object "java/lang/String")) :: ws) ({ frames := 4, cells := 6, slots := 12, locals := 66 } : Room)) (fun a_ U_ => a_ = #[(.int (0 : Int32)), (.int xa), (.int xb), (.int xc)] ∧ Z.Warmed39 U_.vm ∧ U_.heap = h0 ∧ CHv Z consts_1 U_.vm h0) (fun _ _ _ _ _ => True) (fun _ U_ o_ V_ => ∃ v_ L_, o_ = .returned v_ ∧ Q_mk0 Z xa xb xc h0 n0 v_ V_.heap L_ ∧ CHr Z consts_1 U_.vm U_.heap V_.vm V_.heap ∧ ReturnedEndW U_ o_ V_ L_ ({ frames := 4, cells := 6, slots := 12, locals := 66 } : Room).cells ({ frames := 4, cells := 6, slots := 12, locals := 66 } : Room).slots) := by
  refine MetFree.of_bodySF (plainFor_of_name pn_1) hisR ?_
  intro p e s m args below meth c s₁ Bd hml0 hP hK
  obtain ⟨rfl, hZ, hh, hC0⟩ := hP
  have hx := Bd.exec
  have hby := Bd.bytes
  have hml : c.maxLocals = 4 := hml0
  have hown : s.vm.findClass "com/example/soft_throttle/softthrottle/usage/RequestCountEqualsPinLaw" = some m.cls := findClass_of_methodNamed Bd.named
  have hnm := (name_of_methodNamed Bd.named Bd.method).1
  have hlk : meth.locks = false := Bd.notSynchronized
  have X0 : Stand p l e ({ frames := 4, cells := 6, slots := 12, locals := 66 } : Room) s m #[(.int (0 : Int32)), (.int xa), (.int xb), (.int xc)] below meth c s₁ [] 0 0 := Stand.of_body Bd
  have e0 : s₁.heap = h0 := by rw [← hh, Bd.state]; rfl
  have N0 := Fr.nil n0
  have X0 := own_base X0
  have hZ : Z.Warmed39 (s.setVm s.vm).vm := hZ
  have C0 := CHr.refl hC0
  have hS0 : s.Since s.vm 0 := (State.WarmedH.refl s).since 0
  have K0 := Keep.refl h0 []
  refine Comes.outH (EL := consts_1) (Z := Z) (Q := Q_mk0 Z xa xb xc h0 n0) (kc := ({ frames := 4, cells := 6, slots := 12, locals := 66 } : Room).cells) (ks := ({ frames := 4, cells := 6, slots := 12, locals := 66 } : Room).slots) ?_
  refine Comes.cast (ef_mk0 m xa xb xc) ?_
  show Comes p e below _ (s₁.setTop (mkF m 0 #[.val (.int (0 : Int32)), .val (.int xa), .val (.int xb), .val (.int xc)] []))
  refine Comes.st (fun t k => XS.iloadN X0.here hx rfl (hb hby d1_0) rfl k) ?_
  show Comes p e below _ (s₁.setTop (mkF m 1 #[.val (.int (0 : Int32)), .val (.int xa), .val (.int xb), .val (.int xc)] [(.int (0 : Int32))]))
  have hc1_1 : (0 : Int32) = (0 : Int32) := by decide
  refine Comes.st (fun t k => XS.ifNo X0.here hx rfl (hb hby d1_1) rfl ((if0 _ _).trans (teq hc1_1).2) k) ?_
  show Comes p e below _ (s₁.setTop (mkF m 4 #[.val (.int (0 : Int32)), .val (.int xa), .val (.int xb), .val (.int xc)] []))
  obtain ⟨T2, h2, X2, e2, E2, A2, D2, -, st2⟩ := newO X0 hx hZ hown (hw _ (List.mem_of_getElem? (i := 4) rfl)) (hw _ (List.mem_of_getElem? (i := 5) rfl)) (hw _ (List.mem_of_getElem? (i := 6) rfl)) e0 (g := (mkF m 4 #[.val (.int (0 : Int32)), .val (.int xa), .val (.int xb), .val (.int xc)] [])) rfl (hb hby d1_4) (by decide) (by decide)
  obtain ⟨b2, g2⟩ : ∃ z, z = h0.size := ⟨_, rfl⟩
  rw [← g2] at A2 D2 st2
  have Ca2 := CHr.ext E2 C0.1
  have z2 : h0.size ≤ h2.size := E2.1
  have C2 := C0.trans Ca2
  have lt2 : b2 < h2.size := A2.lt
  have F3 : Fld Z h2 b2 "java/lang/String" "value" "[B" .null := D2 (Or.inr (hw _ (List.mem_of_getElem? (i := 20) rfl))) (ty := (.array .byte)) (by decide)
  have F4 : Fld Z h2 b2 "java/lang/String" "coder" "B" (.int (0 : Int32)) := D2 (Or.inr (hw _ (List.mem_of_getElem? (i := 21) rfl))) (ty := .byte) (by decide)
  have K2 : Keep h0 h2 [] := K0.ext E2
  refine Comes.st st2 ?_
  show Comes p e below _ (T2.setTop (mkF m 7 #[.val (.int (0 : Int32)), .val (.int xa), .val (.int xb), .val (.int xc)] [(.ref b2)]))
  refine Comes.st (fun t k => XS.dup X2.here hx rfl (hb hby d1_7) rfl rfl (XS.iconst X2.here hx rfl (hb hby d1_8) k)) ?_
  show Comes p e below _ (T2.setTop (mkF m 9 #[.val (.int (0 : Int32)), .val (.int xa), .val (.int xb), .val (.int xc)] [(.int (0 : Int32)), (.ref b2), (.ref b2)]))
  obtain ⟨T5, h5, k5, X5, e5, E5, A5, st5⟩ := newP X2 hx hZ (hw _ (List.mem_of_getElem? (i := 7) rfl)) e2 (g := (mkF m 9 #[.val (.int (0 : Int32)), .val (.int xa), .val (.int xb), .val (.int xc)] [(.int (0 : Int32)), (.ref b2), (.ref b2)])) rfl (hb hby d1_9) rfl (by decide) (cap := 0) (by decide) (by decide) (by decide) (by decide)
  obtain ⟨b5, g5⟩ : ∃ z, z = h2.size := ⟨_, rfl⟩
  rw [← g5] at A5 st5
  have Ca5 := CHr.ext E5 C2.1
  have z5 : h2.size ≤ h5.size := E5.1
  have C5 := C2.trans Ca5
  have lt5 : b5 < h5.size := A5.lt
  have V5 : Arv Z h5 b5 k5 .char (0 : Int32) [] (.int (0 : Int32)) := (Arv.new A5 (by decide)).pad (pad_rep [] (.int (0 : Int32)) 0)
  have K5 : Keep h0 h5 [] := K2.ext E5
  refine Comes.st st5 ?_
  show Comes p e below _ (T5.setTop (mkF m 11 #[.val (.int (0 : Int32)), .val (.int xa), .val (.int xb), .val (.int xc)] [(.ref b5), (.ref b2), (.ref b2)]))
  have F6 : Exa Z h5 b2 "java/lang/String" := (A2.ext E5)
  have F7 : Fld Z h5 b2 "java/lang/String" "value" "[B" .null := (F3.ext E5)
  have F8 : Fld Z h5 b2 "java/lang/String" "coder" "B" (.int (0 : Int32)) := (F4.ext E5)
  have ne9 : b5 ≠ b2 := by omega
  obtain ⟨_, _, ⟨T10, L10, k10, n10⟩, -, X10, hSc10, hgr10, ⟨Lc10, hQ10, l10, y10, z10, Ca10⟩, st10⟩ := X5.specialBackS hx (y := (⟨"java/lang/String", "<init>", "([C)V"⟩ : MethodName)) rfl hown (mvT hZ (hw _ (List.mem_of_getElem? (i := 8) rfl))) (mvT hZ (hw _ (List.mem_of_getElem? (i := 9) rfl))) (mvT hZ (hw _ (List.mem_of_getElem? (i := 10) rfl))) (by decide) (backOfSH (W := 1) (sic0 l Z a0 hw [] b2 b5 k5 h5 n0 (by omega)  F6 F7 F8 V5 ne9 (by omega)) hZ (hw _ (List.mem_of_getElem? (i := 10) rfl)) (hw _ (List.mem_of_getElem? (i := 6) rfl)) (by decide) (by decide) (own_EW hw) C5.1) (g := (mkF m 11 #[.val (.int (0 : Int32)), .val (.int xa), .val (.int xb), .val (.int xc)] [(.ref b5), (.ref b2), (.ref b2)])) rfl (by rw [hml]; rfl) (Steps.refl _) (a := b2) (argsL := [(.ref b5)]) (rest := [(.ref b2)]) (lenOf pd_4 rfl) rfl (by show 2 * 0 + _ ≤ _; exact Nat.le_of_eq rfl) (hb hby d1_11) (fun _ _ => ⟨rfl, e5, (by decide : 2 + 4 ≤ _), (by decide : 4 + 8 ≤ _)⟩)
  dsimp only [Pt.U, Pt.locs, Pt.cells, Pt.slots] at X10 hSc10 hgr10 l10 y10 z10 st10 hQ10 Ca10
  have hS10 : s.Since T10.vm T10.heap.size := foldS (T := T5) hS0 (by rw [e5]; omega) hSc10 hgr10
  have hZ : Z.Warmed39 (s.setVm T10.vm).vm := State.Warmed39.trans (t := s.setVm s.vm) hZ hSc10.1
  have hown : (s.setVm T10.vm).vm.findClass "com/example/soft_throttle/softthrottle/usage/RequestCountEqualsPinLaw" = some m.cls := by rw [show (s.setVm T10.vm).vm = T10.vm from rfl, hSc10.1.alike.findClass]; exact hown
  have X10 := own_rebase X10
  subst l10 y10 z10
  obtain ⟨o11, r12, rfl, Nq10, Kq10, P10_0, P10_1, P10_2, P10_3⟩ := hQ10
  have N10 := Fr.app N0 Nq10
  have z10k : h5.size ≤ T10.heap.size := Kq10.1
  have C10 := C5.trans Ca10
  have gz13 : h0.size ≤ b2 := by omega
  have K10 : Keep h0 T10.heap [] := K5.trans Kq10 (allS (Or.inr gz13) all0)
  refine Comes.go st10 ?_
  have lt_14 : b2 < T10.heap.size := P10_0.lt
  have lt_15 : o11 < T10.heap.size := P10_3.lt
  show Comes p e below _ (T10.setTop (mkF m 14 #[.val (.int (0 : Int32)), .val (.int xa), .val (.int xb), .val (.int xc)] [(.ref b2)]))
  have hkf : T10.heap.size ≤ T10.heap.size := by omega
  exact Comes.hretV X10 hx Bd.returns (narrow_ref rfl) (Or.inr (Or.inr (Or.inr (Or.inr ⟨rfl, rfl, rfl⟩)))) hlk (hb hby d1_14) hS10 hkf rfl ⟨b2, o11, r12, rfl, N10, K10, P10_0, P10_1, P10_2, P10_3, (by omega)⟩ (by decide) (by decide) (by rw [hh]; exact C10) hZ (own_EW hw)
def Q_mkG (Z : State) (n xa xb xc cs : Int32) (h0 : Heap) (n0 : Nat) (v_ : Option Value) (h : Heap) (L_ : List Loc) : Prop := ∃ (r : Nat), ∃ (vb : Nat), ∃ (kb : ClassId), (v_ = some (.ref r)) ∧ (Fr n0 L_) ∧ (Keep h0 h []) ∧ (Exa Z h r "java/lang/String") ∧ (Fld Z h r "java/lang/String" "value" "[B" (.ref vb)) ∧ (Fld Z h r "java/lang/String" "coder" "B" (.int (0 : Int32))) ∧ (Arv Z h vb kb .byte n (own_bs n (nar .byte ((nar .char xa).toInt8.toInt32)) (nar .byte ((nar .char xb).toInt8.toInt32)) (nar .byte ((nar .char xc).toInt8.toInt32))) (.int (0 : Int32))) ∧ (h0.size ≤ r)
theorem mkG (l : Launch) (Z : State) (a0 : Array Value) (hw : ∀ d ∈ tables_1, d.before a0 Z = true) (ws : List Jvm.Cond) (n xa xb xc cs : Int32) (h0 : Heap) (n0 : Nat) (Z0 : n0 ≤ h0.size) (G0 : Sta Z Z.heap "java/lang/String" "COMPACT_STRINGS" "Z" (.int cs)) (G1 : ¬ (cs = (0 : Int32))) (G2 : Old Z n0 h0) (G3 : 0 ≤ xa.toInt ∧ xa.toInt ≤ 255) (G4 : 0 ≤ xb.toInt ∧ xb.toInt ≤ 255) (G5 : 0 ≤ xc.toInt ∧ xc.toInt ≤ 255) (G6 : 0 ≤ n.toInt ∧ n.toInt ≤ 3) :
    MetFree l (⟨"com/example/soft_throttle/softthrottle/usage/RequestCountEqualsPinLaw", "mk", "(ICCC)Ljava/lang/String;"⟩ : MethodName) (head1 (Jvm.Cond.code (⟨"com/example/soft_throttle/softthrottle/usage/RequestCountEqualsPinLaw", "mk", "(ICCC)Ljava/lang/String;"⟩ : MethodName) method_2_code 4 (some (.object "java/lang/String")) :: ws) ({ frames := 4, cells := 6, slots := 12, locals := 66 } : Room)) (fun a_ U_ => a_ = #[(.int n), (.int xa), (.int xb), (.int xc)] ∧ Z.Warmed39 U_.vm ∧ U_.heap = h0 ∧ CHv Z consts_1 U_.vm h0) (fun _ _ _ _ _ => True) (fun _ U_ o_ V_ => ∃ v_ L_, o_ = .returned v_ ∧ Q_mkG Z n xa xb xc cs h0 n0 v_ V_.heap L_ ∧ CHr Z consts_1 U_.vm U_.heap V_.vm V_.heap ∧ ReturnedEndW U_ o_ V_ L_ ({ frames := 4, cells := 6, slots := 12, locals := 66 } : Room).cells ({ frames := 4, cells := 6, slots := 12, locals := 66 } : Room).slots) := by
  rcases own_03 G6 with rfl | rfl | rfl | rfl
  · exact (mk0 l Z a0 hw ws xa xb xc h0 n0 Z0).mono (fun _ _ q => q) (fun _ _ _ _ _ k => k) (fun _ _ _ _ _ ⟨v, L, e, ⟨r, vb, kb, q1, q2, q3, q4, q5, q6, q7, q8⟩, c⟩ => ⟨v, L, e, ⟨r, vb, kb, q1, q2, q3, q4, q5, q6, by rw [own_bs0]; exact q7, q8⟩, c⟩)
  · exact (own_lift (mk1 l Z a0 hw ws xa xb xc cs h0 n0 Z0 G0 G1 G2 G3 G4 G5) (fun v h L q => by obtain ⟨_, _, _, _, _, K, _⟩ := q; exact K) (own_EW hw)).mono (fun _ _ q => q) (fun _ _ _ _ _ k => k) (fun _ _ _ _ _ ⟨v, L, e, ⟨r, vb, kb, q1, q2, q3, q4, q5, q6, q7, q8⟩, c⟩ => ⟨v, L, e, ⟨r, vb, kb, q1, q2, q3, q4, q5, q6, by rw [own_bs1]; exact q7, q8⟩, c⟩)
  · exact (own_lift (mk2 l Z a0 hw ws xa xb xc cs h0 n0 Z0 G0 G1 G2 G3 G4 G5) (fun v h L q => by obtain ⟨_, _, _, _, _, K, _⟩ := q; exact K) (own_EW hw)).mono (fun _ _ q => q) (fun _ _ _ _ _ k => k) (fun _ _ _ _ _ ⟨v, L, e, ⟨r, vb, kb, q1, q2, q3, q4, q5, q6, q7, q8⟩, c⟩ => ⟨v, L, e, ⟨r, vb, kb, q1, q2, q3, q4, q5, q6, by rw [own_bs2]; exact q7, q8⟩, c⟩)
  · exact (own_lift (mk3 l Z a0 hw ws xa xb xc cs h0 n0 Z0 G0 G1 G2 G3 G4 G5) (fun v h L q => by obtain ⟨_, _, _, _, _, K, _⟩ := q; exact K) (own_EW hw)).mono (fun _ _ q => q) (fun _ _ _ _ _ k => k) (fun _ _ _ _ _ ⟨v, L, e, ⟨r, vb, kb, q1, q2, q3, q4, q5, q6, q7, q8⟩, c⟩ => ⟨v, L, e, ⟨r, vb, kb, q1, q2, q3, q4, q5, q6, by rw [own_bs3]; exact q7, q8⟩, c⟩)
def Q_le0 (Z : State) (va vb : Nat) (ka kb : ClassId) (ya yb yc za zb zc : Int32) (h0 : Heap) (n0 : Nat) (v_ : Option Value) (h : Heap) (L_ : List Loc) : Prop := ∃ (r : Int32), (v_ = some (.int r)) ∧ (Fr n0 L_) ∧ (h = h0) ∧ (own_eqs (0 : Int32) ya yb yc (0 : Int32) za zb zc r)
set_option maxRecDepth 65536 in
set_option maxHeartbeats 40000000 in
theorem le0 (l : Launch) (Z : State) (a0 : Array Value) (hw : ∀ d ∈ tables_1, d.before a0 Z = true) (ws : List Jvm.Cond) (va vb : Nat) (ka kb : ClassId) (ya yb yc za zb zc : Int32) (h0 : Heap) (n0 : Nat) (Z0 : n0 ≤ h0.size) (G0 : Arv Z h0 va ka .byte (0 : Int32) [] (.int (0 : Int32))) (G1 : Arv Z h0 vb kb .byte (0 : Int32) [] (.int (0 : Int32))) :
    MetFree l (⟨"java/lang/StringLatin1", "equals", "([B[B)Z"⟩ : MethodName) (head1 (Jvm.Cond.code (⟨"java/lang/StringLatin1", "equals", "([B[B)Z"⟩ : MethodName) jdk_43_method_13_code 3 (some .boolean) :: ws) ({ frames := 0, cells := 0, slots := 0, locals := 0 } : Room)) (fun a_ U_ => a_ = #[(.ref va), (.ref vb)] ∧ Z.Warmed39 U_.vm ∧ U_.heap = h0) (fun _ _ _ _ _ => True) (fun _ U_ o_ V_ => ∃ v_ L_, o_ = .returned v_ ∧ Q_le0 Z va vb ka kb ya yb yc za zb zc h0 n0 v_ V_.heap L_ ∧ FrameEnd U_ o_ V_ L_ ({ frames := 0, cells := 0, slots := 0, locals := 0 } : Room).cells ({ frames := 0, cells := 0, slots := 0, locals := 0 } : Room).slots) := by
  refine MetFree.of_bodySF (plainFor_of_name pn_13) hisR ?_
  intro p e s m args below meth c s₁ Bd hml0 hP hK
  obtain ⟨rfl, hZ, hh⟩ := hP
  have hx := Bd.exec
  have hby := Bd.bytes
  have hml : c.maxLocals = 3 := hml0
  have hown : s.vm.findClass "java/lang/StringLatin1" = some m.cls := findClass_of_methodNamed Bd.named
  have hnm := (name_of_methodNamed Bd.named Bd.method).1
  have hlk : meth.locks = false := Bd.notSynchronized
  have X0 : Stand p l e ({ frames := 0, cells := 0, slots := 0, locals := 0 } : Room) s m #[(.ref va), (.ref vb)] below meth c s₁ [] 0 0 := Stand.of_body Bd
  have e0 : s₁.heap = h0 := by rw [← hh, Bd.state]; rfl
  have N0 := Fr.nil n0
  refine Comes.out (Q := Q_le0 Z va vb ka kb ya yb yc za zb zc h0 n0) (kc := ({ frames := 0, cells := 0, slots := 0, locals := 0 } : Room).cells) (ks := ({ frames := 0, cells := 0, slots := 0, locals := 0 } : Room).slots) ?_
  refine Comes.cast (ef_le0 m va vb) ?_
  have lt_va : va < h0.size := G0.lt
  have lt_vb : vb < h0.size := G1.lt
  show Comes p e below _ (s₁.setTop (mkF m 0 #[.val (.ref va), .val (.ref vb), .unset] []))
  refine Comes.st (fun t k => XS.aloadN X0.here hx rfl (hb hby d13_0) rfl rfl k) ?_
  show Comes p e below _ (s₁.setTop (mkF m 1 #[.val (.ref va), .val (.ref vb), .unset] [(.ref va)]))
  obtain ⟨cl1, Ar1, -, S1, Ng1, -, -⟩ := id G0
  refine Comes.st (fun t k => X0.arraylength hx (by rw [e0]; exact Ar1.1) (State.isArrayOf_alike hZ.alike Ar1.2.1) (g := (mkF m 1 #[.val (.ref va), .val (.ref vb), .unset] [(.ref va)])) rfl rfl (hb hby d13_1) _ k) ?_
  rw [len_of S1 Ng1]
  show Comes p e below _ (s₁.setTop (mkF m 2 #[.val (.ref va), .val (.ref vb), .unset] [(.int (0 : Int32))]))
  refine Comes.st (fun t k => XS.aloadN X0.here hx rfl (hb hby d13_2) rfl rfl k) ?_
  show Comes p e below _ (s₁.setTop (mkF m 3 #[.val (.ref va), .val (.ref vb), .unset] [(.ref vb), (.int (0 : Int32))]))
  obtain ⟨cl2, Ar2, -, S2, Ng2, -, -⟩ := id G1
  refine Comes.st (fun t k => X0.arraylength hx (by rw [e0]; exact Ar2.1) (State.isArrayOf_alike hZ.alike Ar2.2.1) (g := (mkF m 3 #[.val (.ref va), .val (.ref vb), .unset] [(.ref vb), (.int (0 : Int32))])) rfl rfl (hb hby d13_3) _ k) ?_
  rw [len_of S2 Ng2]
  show Comes p e below _ (s₁.setTop (mkF m 4 #[.val (.ref va), .val (.ref vb), .unset] [(.int (0 : Int32)), (.int (0 : Int32))]))
  have hc4_3 : (0 : Int32) = (0 : Int32) := by decide
  refine Comes.st (fun t k => XS.icmpNo X0.here hx rfl (hb hby d13_4) rfl (teq hc4_3).2 (XS.iconst X0.here hx rfl (hb hby d13_7) (XS.istoreN X0.here hx rfl (hb hby d13_8) rfl (l' := #[.val (.ref va), .val (.ref vb), .val (.int (0 : Int32))]) rfl (XS.iloadN X0.here hx rfl (hb hby d13_9) rfl (XS.aloadN X0.here hx rfl (hb hby d13_10) rfl rfl k))))) ?_
  show Comes p e below _ (s₁.setTop (mkF m 11 #[.val (.ref va), .val (.ref vb), .val (.int (0 : Int32))] [(.ref va), (.int (0 : Int32))]))
  obtain ⟨cl4, Ar4, -, S4, Ng4, -, -⟩ := id G0
  refine Comes.st (fun t k => X0.arraylength hx (by rw [e0]; exact Ar4.1) (State.isArrayOf_alike hZ.alike Ar4.2.1) (g := (mkF m 11 #[.val (.ref va), .val (.ref vb), .val (.int (0 : Int32))] [(.ref va), (.int (0 : Int32))])) rfl rfl (hb hby d13_11) _ k) ?_
  rw [len_of S4 Ng4]
  show Comes p e below _ (s₁.setTop (mkF m 12 #[.val (.ref va), .val (.ref vb), .val (.int (0 : Int32))] [(.int (0 : Int32)), (.int (0 : Int32))]))
  have hc12_5 : ¬ ((0 : Int32) < (0 : Int32)) := by decide
  refine Comes.st (fun t k => XS.icmpYes X0.here hx rfl (pc0 := 12) (pc' := 32) rfl (hb hby d13_12) rfl (flt hc12_5).2.1 (by decide) (by decide) (XS.iconst X0.here hx rfl (hb hby d13_32) k)) ?_
  show Comes p e below _ (s₁.setTop (mkF m 33 #[.val (.ref va), .val (.ref vb), .val (.int (0 : Int32))] [(.int (1 : Int32))]))
  exact Comes.retN X0 hx (t := .boolean) Bd.returns (by simp) hlk (hb hby d13_33) e0 ⟨(1 : Int32), rfl, N0, rfl, (by unfold own_eqs; first | (refine Or.inl ⟨rfl, rfl, ?_, ?_, ?_⟩ <;> first | exact Or.inl (by decide) | exact Or.inr (by assumption)) | (refine Or.inr ⟨rfl, ?_⟩; first | exact Or.inr (Or.inl ⟨by decide, by assumption⟩) | exact Or.inr (Or.inr (Or.inl ⟨by decide, by assumption⟩)) | exact Or.inr (Or.inr (Or.inr ⟨by decide, by assumption⟩))))⟩ (by decide) (by decide)
def Q_le1 (Z : State) (va vb : Nat) (ka kb : ClassId) (ya yb yc za zb zc : Int32) (h0 : Heap) (n0 : Nat) (v_ : Option Value) (h : Heap) (L_ : List Loc) : Prop := ∃ (r : Int32), (v_ = some (.int r)) ∧ (Fr n0 L_) ∧ (h = h0) ∧ (own_eqs (1 : Int32) ya yb yc (1 : Int32) za zb zc r)
set_option maxRecDepth 65536 in
set_option maxHeartbeats 40000000 in
theorem le1 (l : Launch) (Z : State) (a0 : Array Value) (hw : ∀ d ∈ tables_1, d.before a0 Z = true) (ws : List Jvm.Cond) (va vb : Nat) (ka kb : ClassId) (ya yb yc za zb zc : Int32) (h0 : Heap) (n0 : Nat) (Z0 : n0 ≤ h0.size) (G0 : Arv Z h0 va ka .byte (1 : Int32) [(.int ya)] (.int (0 : Int32))) (G1 : Arv Z h0 vb kb .byte (1 : Int32) [(.int za)] (.int (0 : Int32))) :
    MetFree l (⟨"java/lang/StringLatin1", "equals", "([B[B)Z"⟩ : MethodName) (head1 (Jvm.Cond.code (⟨"java/lang/StringLatin1", "equals", "([B[B)Z"⟩ : MethodName) jdk_43_method_13_code 3 (some .boolean) :: ws) ({ frames := 0, cells := 0, slots := 0, locals := 0 } : Room)) (fun a_ U_ => a_ = #[(.ref va), (.ref vb)] ∧ Z.Warmed39 U_.vm ∧ U_.heap = h0) (fun _ _ _ _ _ => True) (fun _ U_ o_ V_ => ∃ v_ L_, o_ = .returned v_ ∧ Q_le1 Z va vb ka kb ya yb yc za zb zc h0 n0 v_ V_.heap L_ ∧ FrameEnd U_ o_ V_ L_ ({ frames := 0, cells := 0, slots := 0, locals := 0 } : Room).cells ({ frames := 0, cells := 0, slots := 0, locals := 0 } : Room).slots) := by
  refine MetFree.of_bodySF (plainFor_of_name pn_13) hisR ?_
  intro p e s m args below meth c s₁ Bd hml0 hP hK
  obtain ⟨rfl, hZ, hh⟩ := hP
  have hx := Bd.exec
  have hby := Bd.bytes
  have hml : c.maxLocals = 3 := hml0
  have hown : s.vm.findClass "java/lang/StringLatin1" = some m.cls := findClass_of_methodNamed Bd.named
  have hnm := (name_of_methodNamed Bd.named Bd.method).1
  have hlk : meth.locks = false := Bd.notSynchronized
  have X0 : Stand p l e ({ frames := 0, cells := 0, slots := 0, locals := 0 } : Room) s m #[(.ref va), (.ref vb)] below meth c s₁ [] 0 0 := Stand.of_body Bd
  have e0 : s₁.heap = h0 := by rw [← hh, Bd.state]; rfl
  have N0 := Fr.nil n0
  refine Comes.out (Q := Q_le1 Z va vb ka kb ya yb yc za zb zc h0 n0) (kc := ({ frames := 0, cells := 0, slots := 0, locals := 0 } : Room).cells) (ks := ({ frames := 0, cells := 0, slots := 0, locals := 0 } : Room).slots) ?_
  refine Comes.cast (ef_le1 m va vb) ?_
  have lt_va : va < h0.size := G0.lt
  have lt_vb : vb < h0.size := G1.lt
  show Comes p e below _ (s₁.setTop (mkF m 0 #[.val (.ref va), .val (.ref vb), .unset] []))
  refine Comes.st (fun t k => XS.aloadN X0.here hx rfl (hb hby d13_0) rfl rfl k) ?_
  show Comes p e below _ (s₁.setTop (mkF m 1 #[.val (.ref va), .val (.ref vb), .unset] [(.ref va)]))
  obtain ⟨cl1, Ar1, -, S1, Ng1, -, -⟩ := id G0
  refine Comes.st (fun t k => X0.arraylength hx (by rw [e0]; exact Ar1.1) (State.isArrayOf_alike hZ.alike Ar1.2.1) (g := (mkF m 1 #[.val (.ref va), .val (.ref vb), .unset] [(.ref va)])) rfl rfl (hb hby d13_1) _ k) ?_
  rw [len_of S1 Ng1]
  show Comes p e below _ (s₁.setTop (mkF m 2 #[.val (.ref va), .val (.ref vb), .unset] [(.int (1 : Int32))]))
  refine Comes.st (fun t k => XS.aloadN X0.here hx rfl (hb hby d13_2) rfl rfl k) ?_
  show Comes p e below _ (s₁.setTop (mkF m 3 #[.val (.ref va), .val (.ref vb), .unset] [(.ref vb), (.int (1 : Int32))]))
  obtain ⟨cl2, Ar2, -, S2, Ng2, -, -⟩ := id G1
  refine Comes.st (fun t k => X0.arraylength hx (by rw [e0]; exact Ar2.1) (State.isArrayOf_alike hZ.alike Ar2.2.1) (g := (mkF m 3 #[.val (.ref va), .val (.ref vb), .unset] [(.ref vb), (.int (1 : Int32))])) rfl rfl (hb hby d13_3) _ k) ?_
  rw [len_of S2 Ng2]
  show Comes p e below _ (s₁.setTop (mkF m 4 #[.val (.ref va), .val (.ref vb), .unset] [(.int (1 : Int32)), (.int (1 : Int32))]))
  have hc4_3 : (1 : Int32) = (1 : Int32) := by decide
  refine Comes.st (fun t k => XS.icmpNo X0.here hx rfl (hb hby d13_4) rfl (teq hc4_3).2 (XS.iconst X0.here hx rfl (hb hby d13_7) (XS.istoreN X0.here hx rfl (hb hby d13_8) rfl (l' := #[.val (.ref va), .val (.ref vb), .val (.int (0 : Int32))]) rfl (XS.iloadN X0.here hx rfl (hb hby d13_9) rfl (XS.aloadN X0.here hx rfl (hb hby d13_10) rfl rfl k))))) ?_
  show Comes p e below _ (s₁.setTop (mkF m 11 #[.val (.ref va), .val (.ref vb), .val (.int (0 : Int32))] [(.ref va), (.int (0 : Int32))]))
  obtain ⟨cl4, Ar4, -, S4, Ng4, -, -⟩ := id G0
  refine Comes.st (fun t k => X0.arraylength hx (by rw [e0]; exact Ar4.1) (State.isArrayOf_alike hZ.alike Ar4.2.1) (g := (mkF m 11 #[.val (.ref va), .val (.ref vb), .val (.int (0 : Int32))] [(.ref va), (.int (0 : Int32))])) rfl rfl (hb hby d13_11) _ k) ?_
  rw [len_of S4 Ng4]
  show Comes p e below _ (s₁.setTop (mkF m 12 #[.val (.ref va), .val (.ref vb), .val (.int (0 : Int32))] [(.int (1 : Int32)), (.int (0 : Int32))]))
  have hc12_5 : (0 : Int32) < (1 : Int32) := by decide
  refine Comes.st (fun t k => XS.icmpNo X0.here hx rfl (hb hby d13_12) rfl (tlt hc12_5).2.1 (XS.aloadN X0.here hx rfl (hb hby d13_15) rfl rfl (XS.iloadN X0.here hx rfl (hb hby d13_16) rfl k))) ?_
  show Comes p e below _ (s₁.setTop (mkF m 17 #[.val (.ref va), .val (.ref vb), .val (.int (0 : Int32))] [(.int (0 : Int32)), (.ref va)]))
  obtain ⟨cl6, Ar6, q6, S6, Ng6, H6, Gf6⟩ := id G0
  have hin6 : ¬ ((0 : Int32) < 0 ∨ cl6.slots.size ≤ ((0 : Int32)).toNatClampNeg) := inb_of S6 ⟨by decide, by decide⟩
  refine Comes.st (fun t k => X0.baloadBytes hx (j := (0 : Int32)) (v := (.int ya)) (by rw [e0]; exact Ar6.1) (State.isArrayOf_alike hZ.alike Ar6.2.1) Ar6.2.2 hin6 (Has.at H6 hin6 rfl) (g := (mkF m 17 #[.val (.ref va), .val (.ref vb), .val (.int (0 : Int32))] [(.int (0 : Int32)), (.ref va)])) rfl rfl (hb hby d13_17) _ (XS.aloadN X0.here hx rfl (hb hby d13_18) rfl rfl (XS.iloadN X0.here hx rfl (hb hby d13_19) rfl k))) ?_
  show Comes p e below _ (s₁.setTop (mkF m 20 #[.val (.ref va), .val (.ref vb), .val (.int (0 : Int32))] [(.int (0 : Int32)), (.ref vb), (.int ya)]))
  obtain ⟨cl7, Ar7, q7, S7, Ng7, H7, Gf7⟩ := id G1
  have hin7 : ¬ ((0 : Int32) < 0 ∨ cl7.slots.size ≤ ((0 : Int32)).toNatClampNeg) := inb_of S7 ⟨by decide, by decide⟩
  refine Comes.st (fun t k => X0.baloadBytes hx (j := (0 : Int32)) (v := (.int za)) (by rw [e0]; exact Ar7.1) (State.isArrayOf_alike hZ.alike Ar7.2.1) Ar7.2.2 hin7 (Has.at H7 hin7 rfl) (g := (mkF m 20 #[.val (.ref va), .val (.ref vb), .val (.int (0 : Int32))] [(.int (0 : Int32)), (.ref vb), (.int ya)])) rfl rfl (hb hby d13_20) _ k) ?_
  show Comes p e below _ (s₁.setTop (mkF m 21 #[.val (.ref va), .val (.ref vb), .val (.int (0 : Int32))] [(.int za), (.int ya)]))
  by_cases hc21_8 : ya = za
  · refine Comes.st (fun t k => XS.icmpYes X0.here hx rfl (pc0 := 21) (pc' := 26) rfl (hb hby d13_21) rfl (teq hc21_8).1 (by decide) (by decide) (XS.iinc X0.here hx rfl (hb hby d13_26) rfl (l' := #[.val (.ref va), .val (.ref vb), .val (.int (1 : Int32))]) rfl (XS.goto X0.here hx rfl (pc0 := 29) (pc' := 9) rfl (hb hby d13_29) (by decide) (by decide) (XS.iloadN X0.here hx rfl (hb hby d13_9) rfl (XS.aloadN X0.here hx rfl (hb hby d13_10) rfl rfl k))))) ?_
    show Comes p e below _ (s₁.setTop (mkF m 11 #[.val (.ref va), .val (.ref vb), .val (.int (1 : Int32))] [(.ref va), (.int (1 : Int32))]))
    obtain ⟨cl9, Ar9, -, S9, Ng9, -, -⟩ := id G0
    refine Comes.st (fun t k => X0.arraylength hx (by rw [e0]; exact Ar9.1) (State.isArrayOf_alike hZ.alike Ar9.2.1) (g := (mkF m 11 #[.val (.ref va), .val (.ref vb), .val (.int (1 : Int32))] [(.ref va), (.int (1 : Int32))])) rfl rfl (hb hby d13_11) _ k) ?_
    rw [len_of S9 Ng9]
    show Comes p e below _ (s₁.setTop (mkF m 12 #[.val (.ref va), .val (.ref vb), .val (.int (1 : Int32))] [(.int (1 : Int32)), (.int (1 : Int32))]))
    have hc12_10 : ¬ ((1 : Int32) < (1 : Int32)) := by decide
    refine Comes.st (fun t k => XS.icmpYes X0.here hx rfl (pc0 := 12) (pc' := 32) rfl (hb hby d13_12) rfl (flt hc12_10).2.1 (by decide) (by decide) (XS.iconst X0.here hx rfl (hb hby d13_32) k)) ?_
    show Comes p e below _ (s₁.setTop (mkF m 33 #[.val (.ref va), .val (.ref vb), .val (.int (1 : Int32))] [(.int (1 : Int32))]))
    exact Comes.retN X0 hx (t := .boolean) Bd.returns (by simp) hlk (hb hby d13_33) e0 ⟨(1 : Int32), rfl, N0, rfl, (by unfold own_eqs; first | (refine Or.inl ⟨rfl, rfl, ?_, ?_, ?_⟩ <;> first | exact Or.inl (by decide) | exact Or.inr (by assumption)) | (refine Or.inr ⟨rfl, ?_⟩; first | exact Or.inr (Or.inl ⟨by decide, by assumption⟩) | exact Or.inr (Or.inr (Or.inl ⟨by decide, by assumption⟩)) | exact Or.inr (Or.inr (Or.inr ⟨by decide, by assumption⟩))))⟩ (by decide) (by decide)
  · refine Comes.st (fun t k => XS.icmpNo X0.here hx rfl (hb hby d13_21) rfl (feq hc21_8).1 (XS.iconst X0.here hx rfl (hb hby d13_24) k)) ?_
    show Comes p e below _ (s₁.setTop (mkF m 25 #[.val (.ref va), .val (.ref vb), .val (.int (0 : Int32))] [(.int (0 : Int32))]))
    exact Comes.retN X0 hx (t := .boolean) Bd.returns (by simp) hlk (hb hby d13_25) e0 ⟨(0 : Int32), rfl, N0, rfl, (by unfold own_eqs; first | (refine Or.inl ⟨rfl, rfl, ?_, ?_, ?_⟩ <;> first | exact Or.inl (by decide) | exact Or.inr (by assumption)) | (refine Or.inr ⟨rfl, ?_⟩; first | exact Or.inr (Or.inl ⟨by decide, by assumption⟩) | exact Or.inr (Or.inr (Or.inl ⟨by decide, by assumption⟩)) | exact Or.inr (Or.inr (Or.inr ⟨by decide, by assumption⟩))))⟩ (by decide) (by decide)
def Q_le2 (Z : State) (va vb : Nat) (ka kb : ClassId) (ya yb yc za zb zc : Int32) (h0 : Heap) (n0 : Nat) (v_ : Option Value) (h : Heap) (L_ : List Loc) : Prop := ∃ (r : Int32), (v_ = some (.int r)) ∧ (Fr n0 L_) ∧ (h = h0) ∧ (own_eqs (2 : Int32) ya yb yc (2 : Int32) za zb zc r)
set_option maxRecDepth 65536 in
set_option maxHeartbeats 40000000 in
theorem le2 (l : Launch) (Z : State) (a0 : Array Value) (hw : ∀ d ∈ tables_1, d.before a0 Z = true) (ws : List Jvm.Cond) (va vb : Nat) (ka kb : ClassId) (ya yb yc za zb zc : Int32) (h0 : Heap) (n0 : Nat) (Z0 : n0 ≤ h0.size) (G0 : Arv Z h0 va ka .byte (2 : Int32) [(.int ya), (.int yb)] (.int (0 : Int32))) (G1 : Arv Z h0 vb kb .byte (2 : Int32) [(.int za), (.int zb)] (.int (0 : Int32))) :
    MetFree l (⟨"java/lang/StringLatin1", "equals", "([B[B)Z"⟩ : MethodName) (head1 (Jvm.Cond.code (⟨"java/lang/StringLatin1", "equals", "([B[B)Z"⟩ : MethodName) jdk_43_method_13_code 3 (some .boolean) :: ws) ({ frames := 0, cells := 0, slots := 0, locals := 0 } : Room)) (fun a_ U_ => a_ = #[(.ref va), (.ref vb)] ∧ Z.Warmed39 U_.vm ∧ U_.heap = h0) (fun _ _ _ _ _ => True) (fun _ U_ o_ V_ => ∃ v_ L_, o_ = .returned v_ ∧ Q_le2 Z va vb ka kb ya yb yc za zb zc h0 n0 v_ V_.heap L_ ∧ FrameEnd U_ o_ V_ L_ ({ frames := 0, cells := 0, slots := 0, locals := 0 } : Room).cells ({ frames := 0, cells := 0, slots := 0, locals := 0 } : Room).slots) := by
  refine MetFree.of_bodySF (plainFor_of_name pn_13) hisR ?_
  intro p e s m args below meth c s₁ Bd hml0 hP hK
  obtain ⟨rfl, hZ, hh⟩ := hP
  have hx := Bd.exec
  have hby := Bd.bytes
  have hml : c.maxLocals = 3 := hml0
  have hown : s.vm.findClass "java/lang/StringLatin1" = some m.cls := findClass_of_methodNamed Bd.named
  have hnm := (name_of_methodNamed Bd.named Bd.method).1
  have hlk : meth.locks = false := Bd.notSynchronized
  have X0 : Stand p l e ({ frames := 0, cells := 0, slots := 0, locals := 0 } : Room) s m #[(.ref va), (.ref vb)] below meth c s₁ [] 0 0 := Stand.of_body Bd
  have e0 : s₁.heap = h0 := by rw [← hh, Bd.state]; rfl
  have N0 := Fr.nil n0
  refine Comes.out (Q := Q_le2 Z va vb ka kb ya yb yc za zb zc h0 n0) (kc := ({ frames := 0, cells := 0, slots := 0, locals := 0 } : Room).cells) (ks := ({ frames := 0, cells := 0, slots := 0, locals := 0 } : Room).slots) ?_
  refine Comes.cast (ef_le2 m va vb) ?_
  have lt_va : va < h0.size := G0.lt
  have lt_vb : vb < h0.size := G1.lt
  show Comes p e below _ (s₁.setTop (mkF m 0 #[.val (.ref va), .val (.ref vb), .unset] []))
  refine Comes.st (fun t k => XS.aloadN X0.here hx rfl (hb hby d13_0) rfl rfl k) ?_
  show Comes p e below _ (s₁.setTop (mkF m 1 #[.val (.ref va), .val (.ref vb), .unset] [(.ref va)]))
  obtain ⟨cl1, Ar1, -, S1, Ng1, -, -⟩ := id G0
  refine Comes.st (fun t k => X0.arraylength hx (by rw [e0]; exact Ar1.1) (State.isArrayOf_alike hZ.alike Ar1.2.1) (g := (mkF m 1 #[.val (.ref va), .val (.ref vb), .unset] [(.ref va)])) rfl rfl (hb hby d13_1) _ k) ?_
  rw [len_of S1 Ng1]
  show Comes p e below _ (s₁.setTop (mkF m 2 #[.val (.ref va), .val (.ref vb), .unset] [(.int (2 : Int32))]))
  refine Comes.st (fun t k => XS.aloadN X0.here hx rfl (hb hby d13_2) rfl rfl k) ?_
  show Comes p e below _ (s₁.setTop (mkF m 3 #[.val (.ref va), .val (.ref vb), .unset] [(.ref vb), (.int (2 : Int32))]))
  obtain ⟨cl2, Ar2, -, S2, Ng2, -, -⟩ := id G1
  refine Comes.st (fun t k => X0.arraylength hx (by rw [e0]; exact Ar2.1) (State.isArrayOf_alike hZ.alike Ar2.2.1) (g := (mkF m 3 #[.val (.ref va), .val (.ref vb), .unset] [(.ref vb), (.int (2 : Int32))])) rfl rfl (hb hby d13_3) _ k) ?_
  rw [len_of S2 Ng2]
  show Comes p e below _ (s₁.setTop (mkF m 4 #[.val (.ref va), .val (.ref vb), .unset] [(.int (2 : Int32)), (.int (2 : Int32))]))
  have hc4_3 : (2 : Int32) = (2 : Int32) := by decide
  refine Comes.st (fun t k => XS.icmpNo X0.here hx rfl (hb hby d13_4) rfl (teq hc4_3).2 (XS.iconst X0.here hx rfl (hb hby d13_7) (XS.istoreN X0.here hx rfl (hb hby d13_8) rfl (l' := #[.val (.ref va), .val (.ref vb), .val (.int (0 : Int32))]) rfl (XS.iloadN X0.here hx rfl (hb hby d13_9) rfl (XS.aloadN X0.here hx rfl (hb hby d13_10) rfl rfl k))))) ?_
  show Comes p e below _ (s₁.setTop (mkF m 11 #[.val (.ref va), .val (.ref vb), .val (.int (0 : Int32))] [(.ref va), (.int (0 : Int32))]))
  obtain ⟨cl4, Ar4, -, S4, Ng4, -, -⟩ := id G0
  refine Comes.st (fun t k => X0.arraylength hx (by rw [e0]; exact Ar4.1) (State.isArrayOf_alike hZ.alike Ar4.2.1) (g := (mkF m 11 #[.val (.ref va), .val (.ref vb), .val (.int (0 : Int32))] [(.ref va), (.int (0 : Int32))])) rfl rfl (hb hby d13_11) _ k) ?_
  rw [len_of S4 Ng4]
  show Comes p e below _ (s₁.setTop (mkF m 12 #[.val (.ref va), .val (.ref vb), .val (.int (0 : Int32))] [(.int (2 : Int32)), (.int (0 : Int32))]))
  have hc12_5 : (0 : Int32) < (2 : Int32) := by decide
  refine Comes.st (fun t k => XS.icmpNo X0.here hx rfl (hb hby d13_12) rfl (tlt hc12_5).2.1 (XS.aloadN X0.here hx rfl (hb hby d13_15) rfl rfl (XS.iloadN X0.here hx rfl (hb hby d13_16) rfl k))) ?_
  show Comes p e below _ (s₁.setTop (mkF m 17 #[.val (.ref va), .val (.ref vb), .val (.int (0 : Int32))] [(.int (0 : Int32)), (.ref va)]))
  obtain ⟨cl6, Ar6, q6, S6, Ng6, H6, Gf6⟩ := id G0
  have hin6 : ¬ ((0 : Int32) < 0 ∨ cl6.slots.size ≤ ((0 : Int32)).toNatClampNeg) := inb_of S6 ⟨by decide, by decide⟩
  refine Comes.st (fun t k => X0.baloadBytes hx (j := (0 : Int32)) (v := (.int ya)) (by rw [e0]; exact Ar6.1) (State.isArrayOf_alike hZ.alike Ar6.2.1) Ar6.2.2 hin6 (Has.at H6 hin6 rfl) (g := (mkF m 17 #[.val (.ref va), .val (.ref vb), .val (.int (0 : Int32))] [(.int (0 : Int32)), (.ref va)])) rfl rfl (hb hby d13_17) _ (XS.aloadN X0.here hx rfl (hb hby d13_18) rfl rfl (XS.iloadN X0.here hx rfl (hb hby d13_19) rfl k))) ?_
  show Comes p e below _ (s₁.setTop (mkF m 20 #[.val (.ref va), .val (.ref vb), .val (.int (0 : Int32))] [(.int (0 : Int32)), (.ref vb), (.int ya)]))
  obtain ⟨cl7, Ar7, q7, S7, Ng7, H7, Gf7⟩ := id G1
  have hin7 : ¬ ((0 : Int32) < 0 ∨ cl7.slots.size ≤ ((0 : Int32)).toNatClampNeg) := inb_of S7 ⟨by decide, by decide⟩
  refine Comes.st (fun t k => X0.baloadBytes hx (j := (0 : Int32)) (v := (.int za)) (by rw [e0]; exact Ar7.1) (State.isArrayOf_alike hZ.alike Ar7.2.1) Ar7.2.2 hin7 (Has.at H7 hin7 rfl) (g := (mkF m 20 #[.val (.ref va), .val (.ref vb), .val (.int (0 : Int32))] [(.int (0 : Int32)), (.ref vb), (.int ya)])) rfl rfl (hb hby d13_20) _ k) ?_
  show Comes p e below _ (s₁.setTop (mkF m 21 #[.val (.ref va), .val (.ref vb), .val (.int (0 : Int32))] [(.int za), (.int ya)]))
  by_cases hc21_8 : ya = za
  · refine Comes.st (fun t k => XS.icmpYes X0.here hx rfl (pc0 := 21) (pc' := 26) rfl (hb hby d13_21) rfl (teq hc21_8).1 (by decide) (by decide) (XS.iinc X0.here hx rfl (hb hby d13_26) rfl (l' := #[.val (.ref va), .val (.ref vb), .val (.int (1 : Int32))]) rfl (XS.goto X0.here hx rfl (pc0 := 29) (pc' := 9) rfl (hb hby d13_29) (by decide) (by decide) (XS.iloadN X0.here hx rfl (hb hby d13_9) rfl (XS.aloadN X0.here hx rfl (hb hby d13_10) rfl rfl k))))) ?_
    show Comes p e below _ (s₁.setTop (mkF m 11 #[.val (.ref va), .val (.ref vb), .val (.int (1 : Int32))] [(.ref va), (.int (1 : Int32))]))
    obtain ⟨cl9, Ar9, -, S9, Ng9, -, -⟩ := id G0
    refine Comes.st (fun t k => X0.arraylength hx (by rw [e0]; exact Ar9.1) (State.isArrayOf_alike hZ.alike Ar9.2.1) (g := (mkF m 11 #[.val (.ref va), .val (.ref vb), .val (.int (1 : Int32))] [(.ref va), (.int (1 : Int32))])) rfl rfl (hb hby d13_11) _ k) ?_
    rw [len_of S9 Ng9]
    show Comes p e below _ (s₁.setTop (mkF m 12 #[.val (.ref va), .val (.ref vb), .val (.int (1 : Int32))] [(.int (2 : Int32)), (.int (1 : Int32))]))
    have hc12_10 : (1 : Int32) < (2 : Int32) := by decide
    refine Comes.st (fun t k => XS.icmpNo X0.here hx rfl (hb hby d13_12) rfl (tlt hc12_10).2.1 (XS.aloadN X0.here hx rfl (hb hby d13_15) rfl rfl (XS.iloadN X0.here hx rfl (hb hby d13_16) rfl k))) ?_
    show Comes p e below _ (s₁.setTop (mkF m 17 #[.val (.ref va), .val (.ref vb), .val (.int (1 : Int32))] [(.int (1 : Int32)), (.ref va)]))
    obtain ⟨cl11, Ar11, q11, S11, Ng11, H11, Gf11⟩ := id G0
    have hin11 : ¬ ((1 : Int32) < 0 ∨ cl11.slots.size ≤ ((1 : Int32)).toNatClampNeg) := inb_of S11 ⟨by decide, by decide⟩
    refine Comes.st (fun t k => X0.baloadBytes hx (j := (1 : Int32)) (v := (.int yb)) (by rw [e0]; exact Ar11.1) (State.isArrayOf_alike hZ.alike Ar11.2.1) Ar11.2.2 hin11 (Has.at H11 hin11 rfl) (g := (mkF m 17 #[.val (.ref va), .val (.ref vb), .val (.int (1 : Int32))] [(.int (1 : Int32)), (.ref va)])) rfl rfl (hb hby d13_17) _ (XS.aloadN X0.here hx rfl (hb hby d13_18) rfl rfl (XS.iloadN X0.here hx rfl (hb hby d13_19) rfl k))) ?_
    show Comes p e below _ (s₁.setTop (mkF m 20 #[.val (.ref va), .val (.ref vb), .val (.int (1 : Int32))] [(.int (1 : Int32)), (.ref vb), (.int yb)]))
    obtain ⟨cl12, Ar12, q12, S12, Ng12, H12, Gf12⟩ := id G1
    have hin12 : ¬ ((1 : Int32) < 0 ∨ cl12.slots.size ≤ ((1 : Int32)).toNatClampNeg) := inb_of S12 ⟨by decide, by decide⟩
    refine Comes.st (fun t k => X0.baloadBytes hx (j := (1 : Int32)) (v := (.int zb)) (by rw [e0]; exact Ar12.1) (State.isArrayOf_alike hZ.alike Ar12.2.1) Ar12.2.2 hin12 (Has.at H12 hin12 rfl) (g := (mkF m 20 #[.val (.ref va), .val (.ref vb), .val (.int (1 : Int32))] [(.int (1 : Int32)), (.ref vb), (.int yb)])) rfl rfl (hb hby d13_20) _ k) ?_
    show Comes p e below _ (s₁.setTop (mkF m 21 #[.val (.ref va), .val (.ref vb), .val (.int (1 : Int32))] [(.int zb), (.int yb)]))
    by_cases hc21_13 : yb = zb
    · refine Comes.st (fun t k => XS.icmpYes X0.here hx rfl (pc0 := 21) (pc' := 26) rfl (hb hby d13_21) rfl (teq hc21_13).1 (by decide) (by decide) (XS.iinc X0.here hx rfl (hb hby d13_26) rfl (l' := #[.val (.ref va), .val (.ref vb), .val (.int (2 : Int32))]) rfl (XS.goto X0.here hx rfl (pc0 := 29) (pc' := 9) rfl (hb hby d13_29) (by decide) (by decide) (XS.iloadN X0.here hx rfl (hb hby d13_9) rfl (XS.aloadN X0.here hx rfl (hb hby d13_10) rfl rfl k))))) ?_
      show Comes p e below _ (s₁.setTop (mkF m 11 #[.val (.ref va), .val (.ref vb), .val (.int (2 : Int32))] [(.ref va), (.int (2 : Int32))]))
      obtain ⟨cl14, Ar14, -, S14, Ng14, -, -⟩ := id G0
      refine Comes.st (fun t k => X0.arraylength hx (by rw [e0]; exact Ar14.1) (State.isArrayOf_alike hZ.alike Ar14.2.1) (g := (mkF m 11 #[.val (.ref va), .val (.ref vb), .val (.int (2 : Int32))] [(.ref va), (.int (2 : Int32))])) rfl rfl (hb hby d13_11) _ k) ?_
      rw [len_of S14 Ng14]
      show Comes p e below _ (s₁.setTop (mkF m 12 #[.val (.ref va), .val (.ref vb), .val (.int (2 : Int32))] [(.int (2 : Int32)), (.int (2 : Int32))]))
      have hc12_15 : ¬ ((2 : Int32) < (2 : Int32)) := by decide
      refine Comes.st (fun t k => XS.icmpYes X0.here hx rfl (pc0 := 12) (pc' := 32) rfl (hb hby d13_12) rfl (flt hc12_15).2.1 (by decide) (by decide) (XS.iconst X0.here hx rfl (hb hby d13_32) k)) ?_
      show Comes p e below _ (s₁.setTop (mkF m 33 #[.val (.ref va), .val (.ref vb), .val (.int (2 : Int32))] [(.int (1 : Int32))]))
      exact Comes.retN X0 hx (t := .boolean) Bd.returns (by simp) hlk (hb hby d13_33) e0 ⟨(1 : Int32), rfl, N0, rfl, (by unfold own_eqs; first | (refine Or.inl ⟨rfl, rfl, ?_, ?_, ?_⟩ <;> first | exact Or.inl (by decide) | exact Or.inr (by assumption)) | (refine Or.inr ⟨rfl, ?_⟩; first | exact Or.inr (Or.inl ⟨by decide, by assumption⟩) | exact Or.inr (Or.inr (Or.inl ⟨by decide, by assumption⟩)) | exact Or.inr (Or.inr (Or.inr ⟨by decide, by assumption⟩))))⟩ (by decide) (by decide)
    · refine Comes.st (fun t k => XS.icmpNo X0.here hx rfl (hb hby d13_21) rfl (feq hc21_13).1 (XS.iconst X0.here hx rfl (hb hby d13_24) k)) ?_
      show Comes p e below _ (s₁.setTop (mkF m 25 #[.val (.ref va), .val (.ref vb), .val (.int (1 : Int32))] [(.int (0 : Int32))]))
      exact Comes.retN X0 hx (t := .boolean) Bd.returns (by simp) hlk (hb hby d13_25) e0 ⟨(0 : Int32), rfl, N0, rfl, (by unfold own_eqs; first | (refine Or.inl ⟨rfl, rfl, ?_, ?_, ?_⟩ <;> first | exact Or.inl (by decide) | exact Or.inr (by assumption)) | (refine Or.inr ⟨rfl, ?_⟩; first | exact Or.inr (Or.inl ⟨by decide, by assumption⟩) | exact Or.inr (Or.inr (Or.inl ⟨by decide, by assumption⟩)) | exact Or.inr (Or.inr (Or.inr ⟨by decide, by assumption⟩))))⟩ (by decide) (by decide)
  · refine Comes.st (fun t k => XS.icmpNo X0.here hx rfl (hb hby d13_21) rfl (feq hc21_8).1 (XS.iconst X0.here hx rfl (hb hby d13_24) k)) ?_
    show Comes p e below _ (s₁.setTop (mkF m 25 #[.val (.ref va), .val (.ref vb), .val (.int (0 : Int32))] [(.int (0 : Int32))]))
    exact Comes.retN X0 hx (t := .boolean) Bd.returns (by simp) hlk (hb hby d13_25) e0 ⟨(0 : Int32), rfl, N0, rfl, (by unfold own_eqs; first | (refine Or.inl ⟨rfl, rfl, ?_, ?_, ?_⟩ <;> first | exact Or.inl (by decide) | exact Or.inr (by assumption)) | (refine Or.inr ⟨rfl, ?_⟩; first | exact Or.inr (Or.inl ⟨by decide, by assumption⟩) | exact Or.inr (Or.inr (Or.inl ⟨by decide, by assumption⟩)) | exact Or.inr (Or.inr (Or.inr ⟨by decide, by assumption⟩))))⟩ (by decide) (by decide)
def Q_le3 (Z : State) (va vb : Nat) (ka kb : ClassId) (ya yb yc za zb zc : Int32) (h0 : Heap) (n0 : Nat) (v_ : Option Value) (h : Heap) (L_ : List Loc) : Prop := ∃ (r : Int32), (v_ = some (.int r)) ∧ (Fr n0 L_) ∧ (h = h0) ∧ (own_eqs (3 : Int32) ya yb yc (3 : Int32) za zb zc r)
set_option maxRecDepth 65536 in
set_option maxHeartbeats 40000000 in
theorem le3 (l : Launch) (Z : State) (a0 : Array Value) (hw : ∀ d ∈ tables_1, d.before a0 Z = true) (ws : List Jvm.Cond) (va vb : Nat) (ka kb : ClassId) (ya yb yc za zb zc : Int32) (h0 : Heap) (n0 : Nat) (Z0 : n0 ≤ h0.size) (G0 : Arv Z h0 va ka .byte (3 : Int32) [(.int ya), (.int yb), (.int yc)] (.int (0 : Int32))) (G1 : Arv Z h0 vb kb .byte (3 : Int32) [(.int za), (.int zb), (.int zc)] (.int (0 : Int32))) :
    MetFree l (⟨"java/lang/StringLatin1", "equals", "([B[B)Z"⟩ : MethodName) (head1 (Jvm.Cond.code (⟨"java/lang/StringLatin1", "equals", "([B[B)Z"⟩ : MethodName) jdk_43_method_13_code 3 (some .boolean) :: ws) ({ frames := 0, cells := 0, slots := 0, locals := 0 } : Room)) (fun a_ U_ => a_ = #[(.ref va), (.ref vb)] ∧ Z.Warmed39 U_.vm ∧ U_.heap = h0) (fun _ _ _ _ _ => True) (fun _ U_ o_ V_ => ∃ v_ L_, o_ = .returned v_ ∧ Q_le3 Z va vb ka kb ya yb yc za zb zc h0 n0 v_ V_.heap L_ ∧ FrameEnd U_ o_ V_ L_ ({ frames := 0, cells := 0, slots := 0, locals := 0 } : Room).cells ({ frames := 0, cells := 0, slots := 0, locals := 0 } : Room).slots) := by
  refine MetFree.of_bodySF (plainFor_of_name pn_13) hisR ?_
  intro p e s m args below meth c s₁ Bd hml0 hP hK
  obtain ⟨rfl, hZ, hh⟩ := hP
  have hx := Bd.exec
  have hby := Bd.bytes
  have hml : c.maxLocals = 3 := hml0
  have hown : s.vm.findClass "java/lang/StringLatin1" = some m.cls := findClass_of_methodNamed Bd.named
  have hnm := (name_of_methodNamed Bd.named Bd.method).1
  have hlk : meth.locks = false := Bd.notSynchronized
  have X0 : Stand p l e ({ frames := 0, cells := 0, slots := 0, locals := 0 } : Room) s m #[(.ref va), (.ref vb)] below meth c s₁ [] 0 0 := Stand.of_body Bd
  have e0 : s₁.heap = h0 := by rw [← hh, Bd.state]; rfl
  have N0 := Fr.nil n0
  refine Comes.out (Q := Q_le3 Z va vb ka kb ya yb yc za zb zc h0 n0) (kc := ({ frames := 0, cells := 0, slots := 0, locals := 0 } : Room).cells) (ks := ({ frames := 0, cells := 0, slots := 0, locals := 0 } : Room).slots) ?_
  refine Comes.cast (ef_le3 m va vb) ?_
  have lt_va : va < h0.size := G0.lt
  have lt_vb : vb < h0.size := G1.lt
  show Comes p e below _ (s₁.setTop (mkF m 0 #[.val (.ref va), .val (.ref vb), .unset] []))
  refine Comes.st (fun t k => XS.aloadN X0.here hx rfl (hb hby d13_0) rfl rfl k) ?_
  show Comes p e below _ (s₁.setTop (mkF m 1 #[.val (.ref va), .val (.ref vb), .unset] [(.ref va)]))
  obtain ⟨cl1, Ar1, -, S1, Ng1, -, -⟩ := id G0
  refine Comes.st (fun t k => X0.arraylength hx (by rw [e0]; exact Ar1.1) (State.isArrayOf_alike hZ.alike Ar1.2.1) (g := (mkF m 1 #[.val (.ref va), .val (.ref vb), .unset] [(.ref va)])) rfl rfl (hb hby d13_1) _ k) ?_
  rw [len_of S1 Ng1]
  show Comes p e below _ (s₁.setTop (mkF m 2 #[.val (.ref va), .val (.ref vb), .unset] [(.int (3 : Int32))]))
  refine Comes.st (fun t k => XS.aloadN X0.here hx rfl (hb hby d13_2) rfl rfl k) ?_
  show Comes p e below _ (s₁.setTop (mkF m 3 #[.val (.ref va), .val (.ref vb), .unset] [(.ref vb), (.int (3 : Int32))]))
  obtain ⟨cl2, Ar2, -, S2, Ng2, -, -⟩ := id G1
  refine Comes.st (fun t k => X0.arraylength hx (by rw [e0]; exact Ar2.1) (State.isArrayOf_alike hZ.alike Ar2.2.1) (g := (mkF m 3 #[.val (.ref va), .val (.ref vb), .unset] [(.ref vb), (.int (3 : Int32))])) rfl rfl (hb hby d13_3) _ k) ?_
  rw [len_of S2 Ng2]
  show Comes p e below _ (s₁.setTop (mkF m 4 #[.val (.ref va), .val (.ref vb), .unset] [(.int (3 : Int32)), (.int (3 : Int32))]))
  have hc4_3 : (3 : Int32) = (3 : Int32) := by decide
  refine Comes.st (fun t k => XS.icmpNo X0.here hx rfl (hb hby d13_4) rfl (teq hc4_3).2 (XS.iconst X0.here hx rfl (hb hby d13_7) (XS.istoreN X0.here hx rfl (hb hby d13_8) rfl (l' := #[.val (.ref va), .val (.ref vb), .val (.int (0 : Int32))]) rfl (XS.iloadN X0.here hx rfl (hb hby d13_9) rfl (XS.aloadN X0.here hx rfl (hb hby d13_10) rfl rfl k))))) ?_
  show Comes p e below _ (s₁.setTop (mkF m 11 #[.val (.ref va), .val (.ref vb), .val (.int (0 : Int32))] [(.ref va), (.int (0 : Int32))]))
  obtain ⟨cl4, Ar4, -, S4, Ng4, -, -⟩ := id G0
  refine Comes.st (fun t k => X0.arraylength hx (by rw [e0]; exact Ar4.1) (State.isArrayOf_alike hZ.alike Ar4.2.1) (g := (mkF m 11 #[.val (.ref va), .val (.ref vb), .val (.int (0 : Int32))] [(.ref va), (.int (0 : Int32))])) rfl rfl (hb hby d13_11) _ k) ?_
  rw [len_of S4 Ng4]
  show Comes p e below _ (s₁.setTop (mkF m 12 #[.val (.ref va), .val (.ref vb), .val (.int (0 : Int32))] [(.int (3 : Int32)), (.int (0 : Int32))]))
  have hc12_5 : (0 : Int32) < (3 : Int32) := by decide
  refine Comes.st (fun t k => XS.icmpNo X0.here hx rfl (hb hby d13_12) rfl (tlt hc12_5).2.1 (XS.aloadN X0.here hx rfl (hb hby d13_15) rfl rfl (XS.iloadN X0.here hx rfl (hb hby d13_16) rfl k))) ?_
  show Comes p e below _ (s₁.setTop (mkF m 17 #[.val (.ref va), .val (.ref vb), .val (.int (0 : Int32))] [(.int (0 : Int32)), (.ref va)]))
  obtain ⟨cl6, Ar6, q6, S6, Ng6, H6, Gf6⟩ := id G0
  have hin6 : ¬ ((0 : Int32) < 0 ∨ cl6.slots.size ≤ ((0 : Int32)).toNatClampNeg) := inb_of S6 ⟨by decide, by decide⟩
  refine Comes.st (fun t k => X0.baloadBytes hx (j := (0 : Int32)) (v := (.int ya)) (by rw [e0]; exact Ar6.1) (State.isArrayOf_alike hZ.alike Ar6.2.1) Ar6.2.2 hin6 (Has.at H6 hin6 rfl) (g := (mkF m 17 #[.val (.ref va), .val (.ref vb), .val (.int (0 : Int32))] [(.int (0 : Int32)), (.ref va)])) rfl rfl (hb hby d13_17) _ (XS.aloadN X0.here hx rfl (hb hby d13_18) rfl rfl (XS.iloadN X0.here hx rfl (hb hby d13_19) rfl k))) ?_
  show Comes p e below _ (s₁.setTop (mkF m 20 #[.val (.ref va), .val (.ref vb), .val (.int (0 : Int32))] [(.int (0 : Int32)), (.ref vb), (.int ya)]))
  obtain ⟨cl7, Ar7, q7, S7, Ng7, H7, Gf7⟩ := id G1
  have hin7 : ¬ ((0 : Int32) < 0 ∨ cl7.slots.size ≤ ((0 : Int32)).toNatClampNeg) := inb_of S7 ⟨by decide, by decide⟩
  refine Comes.st (fun t k => X0.baloadBytes hx (j := (0 : Int32)) (v := (.int za)) (by rw [e0]; exact Ar7.1) (State.isArrayOf_alike hZ.alike Ar7.2.1) Ar7.2.2 hin7 (Has.at H7 hin7 rfl) (g := (mkF m 20 #[.val (.ref va), .val (.ref vb), .val (.int (0 : Int32))] [(.int (0 : Int32)), (.ref vb), (.int ya)])) rfl rfl (hb hby d13_20) _ k) ?_
  show Comes p e below _ (s₁.setTop (mkF m 21 #[.val (.ref va), .val (.ref vb), .val (.int (0 : Int32))] [(.int za), (.int ya)]))
  by_cases hc21_8 : ya = za
  · refine Comes.st (fun t k => XS.icmpYes X0.here hx rfl (pc0 := 21) (pc' := 26) rfl (hb hby d13_21) rfl (teq hc21_8).1 (by decide) (by decide) (XS.iinc X0.here hx rfl (hb hby d13_26) rfl (l' := #[.val (.ref va), .val (.ref vb), .val (.int (1 : Int32))]) rfl (XS.goto X0.here hx rfl (pc0 := 29) (pc' := 9) rfl (hb hby d13_29) (by decide) (by decide) (XS.iloadN X0.here hx rfl (hb hby d13_9) rfl (XS.aloadN X0.here hx rfl (hb hby d13_10) rfl rfl k))))) ?_
    show Comes p e below _ (s₁.setTop (mkF m 11 #[.val (.ref va), .val (.ref vb), .val (.int (1 : Int32))] [(.ref va), (.int (1 : Int32))]))
    obtain ⟨cl9, Ar9, -, S9, Ng9, -, -⟩ := id G0
    refine Comes.st (fun t k => X0.arraylength hx (by rw [e0]; exact Ar9.1) (State.isArrayOf_alike hZ.alike Ar9.2.1) (g := (mkF m 11 #[.val (.ref va), .val (.ref vb), .val (.int (1 : Int32))] [(.ref va), (.int (1 : Int32))])) rfl rfl (hb hby d13_11) _ k) ?_
    rw [len_of S9 Ng9]
    show Comes p e below _ (s₁.setTop (mkF m 12 #[.val (.ref va), .val (.ref vb), .val (.int (1 : Int32))] [(.int (3 : Int32)), (.int (1 : Int32))]))
    have hc12_10 : (1 : Int32) < (3 : Int32) := by decide
    refine Comes.st (fun t k => XS.icmpNo X0.here hx rfl (hb hby d13_12) rfl (tlt hc12_10).2.1 (XS.aloadN X0.here hx rfl (hb hby d13_15) rfl rfl (XS.iloadN X0.here hx rfl (hb hby d13_16) rfl k))) ?_
    show Comes p e below _ (s₁.setTop (mkF m 17 #[.val (.ref va), .val (.ref vb), .val (.int (1 : Int32))] [(.int (1 : Int32)), (.ref va)]))
    obtain ⟨cl11, Ar11, q11, S11, Ng11, H11, Gf11⟩ := id G0
    have hin11 : ¬ ((1 : Int32) < 0 ∨ cl11.slots.size ≤ ((1 : Int32)).toNatClampNeg) := inb_of S11 ⟨by decide, by decide⟩
    refine Comes.st (fun t k => X0.baloadBytes hx (j := (1 : Int32)) (v := (.int yb)) (by rw [e0]; exact Ar11.1) (State.isArrayOf_alike hZ.alike Ar11.2.1) Ar11.2.2 hin11 (Has.at H11 hin11 rfl) (g := (mkF m 17 #[.val (.ref va), .val (.ref vb), .val (.int (1 : Int32))] [(.int (1 : Int32)), (.ref va)])) rfl rfl (hb hby d13_17) _ (XS.aloadN X0.here hx rfl (hb hby d13_18) rfl rfl (XS.iloadN X0.here hx rfl (hb hby d13_19) rfl k))) ?_
    show Comes p e below _ (s₁.setTop (mkF m 20 #[.val (.ref va), .val (.ref vb), .val (.int (1 : Int32))] [(.int (1 : Int32)), (.ref vb), (.int yb)]))
    obtain ⟨cl12, Ar12, q12, S12, Ng12, H12, Gf12⟩ := id G1
    have hin12 : ¬ ((1 : Int32) < 0 ∨ cl12.slots.size ≤ ((1 : Int32)).toNatClampNeg) := inb_of S12 ⟨by decide, by decide⟩
    refine Comes.st (fun t k => X0.baloadBytes hx (j := (1 : Int32)) (v := (.int zb)) (by rw [e0]; exact Ar12.1) (State.isArrayOf_alike hZ.alike Ar12.2.1) Ar12.2.2 hin12 (Has.at H12 hin12 rfl) (g := (mkF m 20 #[.val (.ref va), .val (.ref vb), .val (.int (1 : Int32))] [(.int (1 : Int32)), (.ref vb), (.int yb)])) rfl rfl (hb hby d13_20) _ k) ?_
    show Comes p e below _ (s₁.setTop (mkF m 21 #[.val (.ref va), .val (.ref vb), .val (.int (1 : Int32))] [(.int zb), (.int yb)]))
    by_cases hc21_13 : yb = zb
    · refine Comes.st (fun t k => XS.icmpYes X0.here hx rfl (pc0 := 21) (pc' := 26) rfl (hb hby d13_21) rfl (teq hc21_13).1 (by decide) (by decide) (XS.iinc X0.here hx rfl (hb hby d13_26) rfl (l' := #[.val (.ref va), .val (.ref vb), .val (.int (2 : Int32))]) rfl (XS.goto X0.here hx rfl (pc0 := 29) (pc' := 9) rfl (hb hby d13_29) (by decide) (by decide) (XS.iloadN X0.here hx rfl (hb hby d13_9) rfl (XS.aloadN X0.here hx rfl (hb hby d13_10) rfl rfl k))))) ?_
      show Comes p e below _ (s₁.setTop (mkF m 11 #[.val (.ref va), .val (.ref vb), .val (.int (2 : Int32))] [(.ref va), (.int (2 : Int32))]))
      obtain ⟨cl14, Ar14, -, S14, Ng14, -, -⟩ := id G0
      refine Comes.st (fun t k => X0.arraylength hx (by rw [e0]; exact Ar14.1) (State.isArrayOf_alike hZ.alike Ar14.2.1) (g := (mkF m 11 #[.val (.ref va), .val (.ref vb), .val (.int (2 : Int32))] [(.ref va), (.int (2 : Int32))])) rfl rfl (hb hby d13_11) _ k) ?_
      rw [len_of S14 Ng14]
      show Comes p e below _ (s₁.setTop (mkF m 12 #[.val (.ref va), .val (.ref vb), .val (.int (2 : Int32))] [(.int (3 : Int32)), (.int (2 : Int32))]))
      have hc12_15 : (2 : Int32) < (3 : Int32) := by decide
      refine Comes.st (fun t k => XS.icmpNo X0.here hx rfl (hb hby d13_12) rfl (tlt hc12_15).2.1 (XS.aloadN X0.here hx rfl (hb hby d13_15) rfl rfl (XS.iloadN X0.here hx rfl (hb hby d13_16) rfl k))) ?_
      show Comes p e below _ (s₁.setTop (mkF m 17 #[.val (.ref va), .val (.ref vb), .val (.int (2 : Int32))] [(.int (2 : Int32)), (.ref va)]))
      obtain ⟨cl16, Ar16, q16, S16, Ng16, H16, Gf16⟩ := id G0
      have hin16 : ¬ ((2 : Int32) < 0 ∨ cl16.slots.size ≤ ((2 : Int32)).toNatClampNeg) := inb_of S16 ⟨by decide, by decide⟩
      refine Comes.st (fun t k => X0.baloadBytes hx (j := (2 : Int32)) (v := (.int yc)) (by rw [e0]; exact Ar16.1) (State.isArrayOf_alike hZ.alike Ar16.2.1) Ar16.2.2 hin16 (Has.at H16 hin16 rfl) (g := (mkF m 17 #[.val (.ref va), .val (.ref vb), .val (.int (2 : Int32))] [(.int (2 : Int32)), (.ref va)])) rfl rfl (hb hby d13_17) _ (XS.aloadN X0.here hx rfl (hb hby d13_18) rfl rfl (XS.iloadN X0.here hx rfl (hb hby d13_19) rfl k))) ?_
      show Comes p e below _ (s₁.setTop (mkF m 20 #[.val (.ref va), .val (.ref vb), .val (.int (2 : Int32))] [(.int (2 : Int32)), (.ref vb), (.int yc)]))
      obtain ⟨cl17, Ar17, q17, S17, Ng17, H17, Gf17⟩ := id G1
      have hin17 : ¬ ((2 : Int32) < 0 ∨ cl17.slots.size ≤ ((2 : Int32)).toNatClampNeg) := inb_of S17 ⟨by decide, by decide⟩
      refine Comes.st (fun t k => X0.baloadBytes hx (j := (2 : Int32)) (v := (.int zc)) (by rw [e0]; exact Ar17.1) (State.isArrayOf_alike hZ.alike Ar17.2.1) Ar17.2.2 hin17 (Has.at H17 hin17 rfl) (g := (mkF m 20 #[.val (.ref va), .val (.ref vb), .val (.int (2 : Int32))] [(.int (2 : Int32)), (.ref vb), (.int yc)])) rfl rfl (hb hby d13_20) _ k) ?_
      show Comes p e below _ (s₁.setTop (mkF m 21 #[.val (.ref va), .val (.ref vb), .val (.int (2 : Int32))] [(.int zc), (.int yc)]))
      by_cases hc21_18 : yc = zc
      · refine Comes.st (fun t k => XS.icmpYes X0.here hx rfl (pc0 := 21) (pc' := 26) rfl (hb hby d13_21) rfl (teq hc21_18).1 (by decide) (by decide) (XS.iinc X0.here hx rfl (hb hby d13_26) rfl (l' := #[.val (.ref va), .val (.ref vb), .val (.int (3 : Int32))]) rfl (XS.goto X0.here hx rfl (pc0 := 29) (pc' := 9) rfl (hb hby d13_29) (by decide) (by decide) (XS.iloadN X0.here hx rfl (hb hby d13_9) rfl (XS.aloadN X0.here hx rfl (hb hby d13_10) rfl rfl k))))) ?_
        show Comes p e below _ (s₁.setTop (mkF m 11 #[.val (.ref va), .val (.ref vb), .val (.int (3 : Int32))] [(.ref va), (.int (3 : Int32))]))
        obtain ⟨cl19, Ar19, -, S19, Ng19, -, -⟩ := id G0
        refine Comes.st (fun t k => X0.arraylength hx (by rw [e0]; exact Ar19.1) (State.isArrayOf_alike hZ.alike Ar19.2.1) (g := (mkF m 11 #[.val (.ref va), .val (.ref vb), .val (.int (3 : Int32))] [(.ref va), (.int (3 : Int32))])) rfl rfl (hb hby d13_11) _ k) ?_
        rw [len_of S19 Ng19]
        show Comes p e below _ (s₁.setTop (mkF m 12 #[.val (.ref va), .val (.ref vb), .val (.int (3 : Int32))] [(.int (3 : Int32)), (.int (3 : Int32))]))
        have hc12_20 : ¬ ((3 : Int32) < (3 : Int32)) := by decide
        refine Comes.st (fun t k => XS.icmpYes X0.here hx rfl (pc0 := 12) (pc' := 32) rfl (hb hby d13_12) rfl (flt hc12_20).2.1 (by decide) (by decide) (XS.iconst X0.here hx rfl (hb hby d13_32) k)) ?_
        show Comes p e below _ (s₁.setTop (mkF m 33 #[.val (.ref va), .val (.ref vb), .val (.int (3 : Int32))] [(.int (1 : Int32))]))
        exact Comes.retN X0 hx (t := .boolean) Bd.returns (by simp) hlk (hb hby d13_33) e0 ⟨(1 : Int32), rfl, N0, rfl, (by unfold own_eqs; first | (refine Or.inl ⟨rfl, rfl, ?_, ?_, ?_⟩ <;> first | exact Or.inl (by decide) | exact Or.inr (by assumption)) | (refine Or.inr ⟨rfl, ?_⟩; first | exact Or.inr (Or.inl ⟨by decide, by assumption⟩) | exact Or.inr (Or.inr (Or.inl ⟨by decide, by assumption⟩)) | exact Or.inr (Or.inr (Or.inr ⟨by decide, by assumption⟩))))⟩ (by decide) (by decide)
      · refine Comes.st (fun t k => XS.icmpNo X0.here hx rfl (hb hby d13_21) rfl (feq hc21_18).1 (XS.iconst X0.here hx rfl (hb hby d13_24) k)) ?_
        show Comes p e below _ (s₁.setTop (mkF m 25 #[.val (.ref va), .val (.ref vb), .val (.int (2 : Int32))] [(.int (0 : Int32))]))
        exact Comes.retN X0 hx (t := .boolean) Bd.returns (by simp) hlk (hb hby d13_25) e0 ⟨(0 : Int32), rfl, N0, rfl, (by unfold own_eqs; first | (refine Or.inl ⟨rfl, rfl, ?_, ?_, ?_⟩ <;> first | exact Or.inl (by decide) | exact Or.inr (by assumption)) | (refine Or.inr ⟨rfl, ?_⟩; first | exact Or.inr (Or.inl ⟨by decide, by assumption⟩) | exact Or.inr (Or.inr (Or.inl ⟨by decide, by assumption⟩)) | exact Or.inr (Or.inr (Or.inr ⟨by decide, by assumption⟩))))⟩ (by decide) (by decide)
    · refine Comes.st (fun t k => XS.icmpNo X0.here hx rfl (hb hby d13_21) rfl (feq hc21_13).1 (XS.iconst X0.here hx rfl (hb hby d13_24) k)) ?_
      show Comes p e below _ (s₁.setTop (mkF m 25 #[.val (.ref va), .val (.ref vb), .val (.int (1 : Int32))] [(.int (0 : Int32))]))
      exact Comes.retN X0 hx (t := .boolean) Bd.returns (by simp) hlk (hb hby d13_25) e0 ⟨(0 : Int32), rfl, N0, rfl, (by unfold own_eqs; first | (refine Or.inl ⟨rfl, rfl, ?_, ?_, ?_⟩ <;> first | exact Or.inl (by decide) | exact Or.inr (by assumption)) | (refine Or.inr ⟨rfl, ?_⟩; first | exact Or.inr (Or.inl ⟨by decide, by assumption⟩) | exact Or.inr (Or.inr (Or.inl ⟨by decide, by assumption⟩)) | exact Or.inr (Or.inr (Or.inr ⟨by decide, by assumption⟩))))⟩ (by decide) (by decide)
  · refine Comes.st (fun t k => XS.icmpNo X0.here hx rfl (hb hby d13_21) rfl (feq hc21_8).1 (XS.iconst X0.here hx rfl (hb hby d13_24) k)) ?_
    show Comes p e below _ (s₁.setTop (mkF m 25 #[.val (.ref va), .val (.ref vb), .val (.int (0 : Int32))] [(.int (0 : Int32))]))
    exact Comes.retN X0 hx (t := .boolean) Bd.returns (by simp) hlk (hb hby d13_25) e0 ⟨(0 : Int32), rfl, N0, rfl, (by unfold own_eqs; first | (refine Or.inl ⟨rfl, rfl, ?_, ?_, ?_⟩ <;> first | exact Or.inl (by decide) | exact Or.inr (by assumption)) | (refine Or.inr ⟨rfl, ?_⟩; first | exact Or.inr (Or.inl ⟨by decide, by assumption⟩) | exact Or.inr (Or.inr (Or.inl ⟨by decide, by assumption⟩)) | exact Or.inr (Or.inr (Or.inr ⟨by decide, by assumption⟩))))⟩ (by decide) (by decide)
def Q_len (Z : State) (va vb : Nat) (ka kb : ClassId) (n mm : Int32) (va_ vb_ : List Value) (h0 : Heap) (n0 : Nat) (v_ : Option Value) (h : Heap) (L_ : List Loc) : Prop := (v_ = some (.int (0 : Int32))) ∧ (Fr n0 L_) ∧ (h = h0)
set_option maxRecDepth 65536 in
set_option maxHeartbeats 40000000 in
theorem len (l : Launch) (Z : State) (a0 : Array Value) (hw : ∀ d ∈ tables_1, d.before a0 Z = true) (ws : List Jvm.Cond) (va vb : Nat) (ka kb : ClassId) (n mm : Int32) (va_ vb_ : List Value) (h0 : Heap) (n0 : Nat) (Z0 : n0 ≤ h0.size) (G0 : Arv Z h0 va ka .byte n va_ (.int (0 : Int32))) (G1 : Arv Z h0 vb kb .byte mm vb_ (.int (0 : Int32))) (G2 : ¬ (n = mm)) :
    MetFree l (⟨"java/lang/StringLatin1", "equals", "([B[B)Z"⟩ : MethodName) (head1 (Jvm.Cond.code (⟨"java/lang/StringLatin1", "equals", "([B[B)Z"⟩ : MethodName) jdk_43_method_13_code 3 (some .boolean) :: ws) ({ frames := 0, cells := 0, slots := 0, locals := 0 } : Room)) (fun a_ U_ => a_ = #[(.ref va), (.ref vb)] ∧ Z.Warmed39 U_.vm ∧ U_.heap = h0) (fun _ _ _ _ _ => True) (fun _ U_ o_ V_ => ∃ v_ L_, o_ = .returned v_ ∧ Q_len Z va vb ka kb n mm va_ vb_ h0 n0 v_ V_.heap L_ ∧ FrameEnd U_ o_ V_ L_ ({ frames := 0, cells := 0, slots := 0, locals := 0 } : Room).cells ({ frames := 0, cells := 0, slots := 0, locals := 0 } : Room).slots) := by
  refine MetFree.of_bodySF (plainFor_of_name pn_13) hisR ?_
  intro p e s m args below meth c s₁ Bd hml0 hP hK
  obtain ⟨rfl, hZ, hh⟩ := hP
  have hx := Bd.exec
  have hby := Bd.bytes
  have hml : c.maxLocals = 3 := hml0
  have hown : s.vm.findClass "java/lang/StringLatin1" = some m.cls := findClass_of_methodNamed Bd.named
  have hnm := (name_of_methodNamed Bd.named Bd.method).1
  have hlk : meth.locks = false := Bd.notSynchronized
  have X0 : Stand p l e ({ frames := 0, cells := 0, slots := 0, locals := 0 } : Room) s m #[(.ref va), (.ref vb)] below meth c s₁ [] 0 0 := Stand.of_body Bd
  have e0 : s₁.heap = h0 := by rw [← hh, Bd.state]; rfl
  have N0 := Fr.nil n0
  refine Comes.out (Q := Q_len Z va vb ka kb n mm va_ vb_ h0 n0) (kc := ({ frames := 0, cells := 0, slots := 0, locals := 0 } : Room).cells) (ks := ({ frames := 0, cells := 0, slots := 0, locals := 0 } : Room).slots) ?_
  refine Comes.cast (ef_len m va vb) ?_
  have lt_va : va < h0.size := G0.lt
  have lt_vb : vb < h0.size := G1.lt
  show Comes p e below _ (s₁.setTop (mkF m 0 #[.val (.ref va), .val (.ref vb), .unset] []))
  refine Comes.st (fun t k => XS.aloadN X0.here hx rfl (hb hby d13_0) rfl rfl k) ?_
  show Comes p e below _ (s₁.setTop (mkF m 1 #[.val (.ref va), .val (.ref vb), .unset] [(.ref va)]))
  obtain ⟨cl1, Ar1, -, S1, Ng1, -, -⟩ := id G0
  refine Comes.st (fun t k => X0.arraylength hx (by rw [e0]; exact Ar1.1) (State.isArrayOf_alike hZ.alike Ar1.2.1) (g := (mkF m 1 #[.val (.ref va), .val (.ref vb), .unset] [(.ref va)])) rfl rfl (hb hby d13_1) _ k) ?_
  rw [len_of S1 Ng1]
  show Comes p e below _ (s₁.setTop (mkF m 2 #[.val (.ref va), .val (.ref vb), .unset] [(.int n)]))
  refine Comes.st (fun t k => XS.aloadN X0.here hx rfl (hb hby d13_2) rfl rfl k) ?_
  show Comes p e below _ (s₁.setTop (mkF m 3 #[.val (.ref va), .val (.ref vb), .unset] [(.ref vb), (.int n)]))
  obtain ⟨cl2, Ar2, -, S2, Ng2, -, -⟩ := id G1
  refine Comes.st (fun t k => X0.arraylength hx (by rw [e0]; exact Ar2.1) (State.isArrayOf_alike hZ.alike Ar2.2.1) (g := (mkF m 3 #[.val (.ref va), .val (.ref vb), .unset] [(.ref vb), (.int n)])) rfl rfl (hb hby d13_3) _ k) ?_
  rw [len_of S2 Ng2]
  show Comes p e below _ (s₁.setTop (mkF m 4 #[.val (.ref va), .val (.ref vb), .unset] [(.int mm), (.int n)]))
  have hc4_3 : ¬ (n = mm) := by assumption
  refine Comes.st (fun t k => XS.icmpYes X0.here hx rfl (pc0 := 4) (pc' := 34) rfl (hb hby d13_4) rfl (feq hc4_3).2 (by decide) (by decide) (XS.iconst X0.here hx rfl (hb hby d13_34) k)) ?_
  show Comes p e below _ (s₁.setTop (mkF m 35 #[.val (.ref va), .val (.ref vb), .unset] [(.int (0 : Int32))]))
  exact Comes.retN X0 hx (t := .boolean) Bd.returns (by simp) hlk (hb hby d13_35) e0 ⟨rfl, N0, rfl⟩ (by decide) (by decide)
def Q_leG (Z : State) (va vb : Nat) (ka kb : ClassId) (n mm ya yb yc za zb zc : Int32) (h0 : Heap) (n0 : Nat) (v_ : Option Value) (h : Heap) (L_ : List Loc) : Prop := ∃ (r : Int32), (v_ = some (.int r)) ∧ (Fr n0 L_) ∧ (h = h0) ∧ (own_eqs n ya yb yc mm za zb zc r)
theorem leG (l : Launch) (Z : State) (a0 : Array Value) (hw : ∀ d ∈ tables_1, d.before a0 Z = true) (ws : List Jvm.Cond) (va vb : Nat) (ka kb : ClassId) (n mm ya yb yc za zb zc : Int32) (h0 : Heap) (n0 : Nat) (Z0 : n0 ≤ h0.size) (G0 : Arv Z h0 va ka .byte n (own_bs n ya yb yc) (.int (0 : Int32))) (G1 : Arv Z h0 vb kb .byte mm (own_bs mm za zb zc) (.int (0 : Int32))) (G2 : 0 ≤ n.toInt ∧ n.toInt ≤ 3) (G3 : 0 ≤ mm.toInt ∧ mm.toInt ≤ 3) :
    MetFree l (⟨"java/lang/StringLatin1", "equals", "([B[B)Z"⟩ : MethodName) (head1 (Jvm.Cond.code (⟨"java/lang/StringLatin1", "equals", "([B[B)Z"⟩ : MethodName) jdk_43_method_13_code 3 (some .boolean) :: ws) ({ frames := 0, cells := 0, slots := 0, locals := 0 } : Room)) (fun a_ U_ => a_ = #[(.ref va), (.ref vb)] ∧ Z.Warmed39 U_.vm ∧ U_.heap = h0) (fun _ _ _ _ _ => True) (fun _ U_ o_ V_ => ∃ v_ L_, o_ = .returned v_ ∧ Q_leG Z va vb ka kb n mm ya yb yc za zb zc h0 n0 v_ V_.heap L_ ∧ FrameEnd U_ o_ V_ L_ ({ frames := 0, cells := 0, slots := 0, locals := 0 } : Room).cells ({ frames := 0, cells := 0, slots := 0, locals := 0 } : Room).slots) := by
  rcases own_03 G2 with rfl | rfl | rfl | rfl
  · rcases own_03 G3 with rfl | rfl | rfl | rfl
    · rw [own_bs0] at G0 G1; exact le0 l Z a0 hw ws va vb ka kb ya yb yc za zb zc h0 n0 Z0 G0 G1
    · exact (len l Z a0 hw ws va vb ka kb (0 : Int32) (1 : Int32) _ _ h0 n0 Z0 G0 G1 (by decide)).mono (fun _ _ q => q) (fun _ _ _ _ _ k => k) (fun _ _ _ _ _ ⟨v, L, e, ⟨q1, q2, q3⟩, c⟩ => ⟨v, L, e, ⟨0, q1, q2, q3, Or.inr ⟨rfl, Or.inl (by decide)⟩⟩, c⟩)
    · exact (len l Z a0 hw ws va vb ka kb (0 : Int32) (2 : Int32) _ _ h0 n0 Z0 G0 G1 (by decide)).mono (fun _ _ q => q) (fun _ _ _ _ _ k => k) (fun _ _ _ _ _ ⟨v, L, e, ⟨q1, q2, q3⟩, c⟩ => ⟨v, L, e, ⟨0, q1, q2, q3, Or.inr ⟨rfl, Or.inl (by decide)⟩⟩, c⟩)
    · exact (len l Z a0 hw ws va vb ka kb (0 : Int32) (3 : Int32) _ _ h0 n0 Z0 G0 G1 (by decide)).mono (fun _ _ q => q) (fun _ _ _ _ _ k => k) (fun _ _ _ _ _ ⟨v, L, e, ⟨q1, q2, q3⟩, c⟩ => ⟨v, L, e, ⟨0, q1, q2, q3, Or.inr ⟨rfl, Or.inl (by decide)⟩⟩, c⟩)
  · rcases own_03 G3 with rfl | rfl | rfl | rfl
    · exact (len l Z a0 hw ws va vb ka kb (1 : Int32) (0 : Int32) _ _ h0 n0 Z0 G0 G1 (by decide)).mono (fun _ _ q => q) (fun _ _ _ _ _ k => k) (fun _ _ _ _ _ ⟨v, L, e, ⟨q1, q2, q3⟩, c⟩ => ⟨v, L, e, ⟨0, q1, q2, q3, Or.inr ⟨rfl, Or.inl (by decide)⟩⟩, c⟩)
    · rw [own_bs1] at G0 G1; exact le1 l Z a0 hw ws va vb ka kb ya yb yc za zb zc h0 n0 Z0 G0 G1
    · exact (len l Z a0 hw ws va vb ka kb (1 : Int32) (2 : Int32) _ _ h0 n0 Z0 G0 G1 (by decide)).mono (fun _ _ q => q) (fun _ _ _ _ _ k => k) (fun _ _ _ _ _ ⟨v, L, e, ⟨q1, q2, q3⟩, c⟩ => ⟨v, L, e, ⟨0, q1, q2, q3, Or.inr ⟨rfl, Or.inl (by decide)⟩⟩, c⟩)
    · exact (len l Z a0 hw ws va vb ka kb (1 : Int32) (3 : Int32) _ _ h0 n0 Z0 G0 G1 (by decide)).mono (fun _ _ q => q) (fun _ _ _ _ _ k => k) (fun _ _ _ _ _ ⟨v, L, e, ⟨q1, q2, q3⟩, c⟩ => ⟨v, L, e, ⟨0, q1, q2, q3, Or.inr ⟨rfl, Or.inl (by decide)⟩⟩, c⟩)
  · rcases own_03 G3 with rfl | rfl | rfl | rfl
    · exact (len l Z a0 hw ws va vb ka kb (2 : Int32) (0 : Int32) _ _ h0 n0 Z0 G0 G1 (by decide)).mono (fun _ _ q => q) (fun _ _ _ _ _ k => k) (fun _ _ _ _ _ ⟨v, L, e, ⟨q1, q2, q3⟩, c⟩ => ⟨v, L, e, ⟨0, q1, q2, q3, Or.inr ⟨rfl, Or.inl (by decide)⟩⟩, c⟩)
    · exact (len l Z a0 hw ws va vb ka kb (2 : Int32) (1 : Int32) _ _ h0 n0 Z0 G0 G1 (by decide)).mono (fun _ _ q => q) (fun _ _ _ _ _ k => k) (fun _ _ _ _ _ ⟨v, L, e, ⟨q1, q2, q3⟩, c⟩ => ⟨v, L, e, ⟨0, q1, q2, q3, Or.inr ⟨rfl, Or.inl (by decide)⟩⟩, c⟩)
    · rw [own_bs2] at G0 G1; exact le2 l Z a0 hw ws va vb ka kb ya yb yc za zb zc h0 n0 Z0 G0 G1
    · exact (len l Z a0 hw ws va vb ka kb (2 : Int32) (3 : Int32) _ _ h0 n0 Z0 G0 G1 (by decide)).mono (fun _ _ q => q) (fun _ _ _ _ _ k => k) (fun _ _ _ _ _ ⟨v, L, e, ⟨q1, q2, q3⟩, c⟩ => ⟨v, L, e, ⟨0, q1, q2, q3, Or.inr ⟨rfl, Or.inl (by decide)⟩⟩, c⟩)
  · rcases own_03 G3 with rfl | rfl | rfl | rfl
    · exact (len l Z a0 hw ws va vb ka kb (3 : Int32) (0 : Int32) _ _ h0 n0 Z0 G0 G1 (by decide)).mono (fun _ _ q => q) (fun _ _ _ _ _ k => k) (fun _ _ _ _ _ ⟨v, L, e, ⟨q1, q2, q3⟩, c⟩ => ⟨v, L, e, ⟨0, q1, q2, q3, Or.inr ⟨rfl, Or.inl (by decide)⟩⟩, c⟩)
    · exact (len l Z a0 hw ws va vb ka kb (3 : Int32) (1 : Int32) _ _ h0 n0 Z0 G0 G1 (by decide)).mono (fun _ _ q => q) (fun _ _ _ _ _ k => k) (fun _ _ _ _ _ ⟨v, L, e, ⟨q1, q2, q3⟩, c⟩ => ⟨v, L, e, ⟨0, q1, q2, q3, Or.inr ⟨rfl, Or.inl (by decide)⟩⟩, c⟩)
    · exact (len l Z a0 hw ws va vb ka kb (3 : Int32) (2 : Int32) _ _ h0 n0 Z0 G0 G1 (by decide)).mono (fun _ _ q => q) (fun _ _ _ _ _ k => k) (fun _ _ _ _ _ ⟨v, L, e, ⟨q1, q2, q3⟩, c⟩ => ⟨v, L, e, ⟨0, q1, q2, q3, Or.inr ⟨rfl, Or.inl (by decide)⟩⟩, c⟩)
    · rw [own_bs3] at G0 G1; exact le3 l Z a0 hw ws va vb ka kb ya yb yc za zb zc h0 n0 Z0 G0 G1
def Q_seN (Z : State) (ea eb va vb : Nat) (ka kb : ClassId) (n mm ya yb yc za zb zc cs : Int32) (h0 : Heap) (n0 : Nat) (v_ : Option Value) (h : Heap) (L_ : List Loc) : Prop := ∃ (r : Int32), (v_ = some (.int r)) ∧ (Fr n0 L_) ∧ (h = h0) ∧ (own_eqs n ya yb yc mm za zb zc r)
set_option maxRecDepth 65536 in
set_option maxHeartbeats 40000000 in
theorem seN (l : Launch) (Z : State) (a0 : Array Value) (hw : ∀ d ∈ tables_1, d.before a0 Z = true) (ws : List Jvm.Cond) (ea eb va vb : Nat) (ka kb : ClassId) (n mm ya yb yc za zb zc cs : Int32) (h0 : Heap) (n0 : Nat) (Z0 : n0 ≤ h0.size) (G0 : Exa Z h0 ea "java/lang/String") (G1 : Fld Z h0 ea "java/lang/String" "value" "[B" (.ref va)) (G2 : Fld Z h0 ea "java/lang/String" "coder" "B" (.int (0 : Int32))) (G3 : Arv Z h0 va ka .byte n (own_bs n ya yb yc) (.int (0 : Int32))) (G4 : 0 ≤ n.toInt ∧ n.toInt ≤ 3) (G5 : Exa Z h0 eb "java/lang/String") (G6 : Fld Z h0 eb "java/lang/String" "value" "[B" (.ref vb)) (G7 : Fld Z h0 eb "java/lang/String" "coder" "B" (.int (0 : Int32))) (G8 : Arv Z h0 vb kb .byte mm (own_bs mm za zb zc) (.int (0 : Int32))) (G9 : 0 ≤ mm.toInt ∧ mm.toInt ≤ 3) (G10 : Sta Z Z.heap "java/lang/String" "COMPACT_STRINGS" "Z" (.int cs)) (G11 : ¬ (cs = (0 : Int32))) (G12 : Old Z n0 h0) (G13 : ea ≠ eb) :
    MetFree l (⟨"java/lang/String", "equals", "(Ljava/lang/Object;)Z"⟩ : MethodName) (head1 (Jvm.Cond.code (⟨"java/lang/String", "equals", "(Ljava/lang/Object;)Z"⟩ : MethodName) jdk_42_method_66_code 3 (some .boolean) :: ws) ({ frames := 1, cells := 0, slots := 0, locals := 14 } : Room)) (fun a_ U_ => a_ = #[(.ref ea), (.ref eb)] ∧ Z.Warmed39 U_.vm ∧ U_.heap = h0) (fun _ _ _ _ _ => True) (fun _ U_ o_ V_ => ∃ v_ L_, o_ = .returned v_ ∧ Q_seN Z ea eb va vb ka kb n mm ya yb yc za zb zc cs h0 n0 v_ V_.heap L_ ∧ FrameEnd U_ o_ V_ L_ ({ frames := 1, cells := 0, slots := 0, locals := 14 } : Room).cells ({ frames := 1, cells := 0, slots := 0, locals := 14 } : Room).slots) := by
  refine MetFree.of_bodySF (plainFor_of_name pn_12) hisR ?_
  intro p e s m args below meth c s₁ Bd hml0 hP hK
  obtain ⟨rfl, hZ, hh⟩ := hP
  have hx := Bd.exec
  have hby := Bd.bytes
  have hml : c.maxLocals = 3 := hml0
  have hown : s.vm.findClass "java/lang/String" = some m.cls := findClass_of_methodNamed Bd.named
  have hnm := (name_of_methodNamed Bd.named Bd.method).1
  have hlk : meth.locks = false := Bd.notSynchronized
  have X0 : Stand p l e ({ frames := 1, cells := 0, slots := 0, locals := 14 } : Room) s m #[(.ref ea), (.ref eb)] below meth c s₁ [] 0 0 := Stand.of_body Bd
  have e0 : s₁.heap = h0 := by rw [← hh, Bd.state]; rfl
  have N0 := Fr.nil n0
  refine Comes.out (Q := Q_seN Z ea eb va vb ka kb n mm ya yb yc za zb zc cs h0 n0) (kc := ({ frames := 1, cells := 0, slots := 0, locals := 14 } : Room).cells) (ks := ({ frames := 1, cells := 0, slots := 0, locals := 14 } : Room).slots) ?_
  refine Comes.cast (ef_seN m ea eb) ?_
  have lt_ea : ea < h0.size := G0.lt
  have lt_va : va < h0.size := G3.lt
  have lt_eb : eb < h0.size := G5.lt
  have lt_vb : vb < h0.size := G8.lt
  show Comes p e below _ (s₁.setTop (mkF m 0 #[.val (.ref ea), .val (.ref eb), .unset] []))
  refine Comes.st (fun t k => XS.aloadN X0.here hx rfl (hb hby d12_0) rfl rfl (XS.aloadN X0.here hx rfl (hb hby d12_1) rfl rfl k)) ?_
  show Comes p e below _ (s₁.setTop (mkF m 2 #[.val (.ref ea), .val (.ref eb), .unset] [(.ref eb), (.ref ea)]))
  have hc2_1 : ¬ (ea = eb) := by assumption
  refine Comes.st (fun t k => Jvm.RoadKit.acmp (g := (mkF m 2 #[.val (.ref ea), .val (.ref eb), .unset] [(.ref eb), (.ref ea)])) X0 hx rfl rfl rfl (pc0 := 2) (pc' := 7) (same := false) rfl (hb hby d12_2) rfl (decide_eq_false fun q => hc2_1 (Value.ref.inj q)) (by decide) (by decide) (XS.aloadN X0.here hx rfl (hb hby d12_7) rfl rfl k)) ?_
  show Comes p e below _ (s₁.setTop (mkF m 8 #[.val (.ref ea), .val (.ref eb), .unset] [(.ref eb)]))
  obtain ⟨T2, X2, e2, st2⟩ := instY X0 hx hZ hown (hw _ (List.mem_of_getElem? (i := 69) rfl)) e0 (Ins.self G5) (g := (mkF m 8 #[.val (.ref ea), .val (.ref eb), .unset] [(.ref eb)])) rfl rfl (hb hby d12_8)
  refine Comes.st st2 ?_
  show Comes p e below _ (T2.setTop (mkF m 11 #[.val (.ref ea), .val (.ref eb), .unset] [(.int (1 : Int32))]))
  have hc11_3 : ¬ ((1 : Int32) = (0 : Int32)) := by decide
  refine Comes.st (fun t k => XS.ifNo X2.here hx rfl (hb hby d12_11) rfl ((if0 _ _).trans (feq hc11_3).1) (XS.aloadN X2.here hx rfl (hb hby d12_14) rfl rfl k)) ?_
  show Comes p e below _ (T2.setTop (mkF m 15 #[.val (.ref ea), .val (.ref eb), .unset] [(.ref eb)]))
  obtain ⟨T4, X4, e4, st4⟩ := castY X2 hx hZ hown (hw _ (List.mem_of_getElem? (i := 69) rfl)) e2 (Ins.self G5) (g := (mkF m 15 #[.val (.ref ea), .val (.ref eb), .unset] [(.ref eb)])) rfl rfl (hb hby d12_15)
  refine Comes.st st4 ?_
  show Comes p e below _ (T4.setTop (mkF m 18 #[.val (.ref ea), .val (.ref eb), .unset] [(.ref eb)]))
  refine Comes.st (fun t k => XS.astoreN X4.here hx rfl (hb hby d12_18) rfl rfl (l' := #[.val (.ref ea), .val (.ref eb), .val (.ref eb)]) rfl k) ?_
  show Comes p e below _ (T4.setTop (mkF m 19 #[.val (.ref ea), .val (.ref eb), .val (.ref eb)] []))
  obtain ⟨T5, X5, e5, st5⟩ := getS2 X4 hx hZ hown (host := "") (Or.inl (hw _ (List.mem_of_getElem? (i := 26) rfl))) Via.refl e4 (G10.ext G12.2) (g := (mkF m 19 #[.val (.ref ea), .val (.ref eb), .val (.ref eb)] [])) rfl (hb hby d12_19)
  refine Comes.st st5 ?_
  show Comes p e below _ (T5.setTop (mkF m 22 #[.val (.ref ea), .val (.ref eb), .val (.ref eb)] [(.int cs)]))
  have hc22_6 : ¬ (cs = (0 : Int32)) := by assumption
  refine Comes.st (fun t k => XS.ifNo X5.here hx rfl (hb hby d12_22) rfl ((if0 _ _).trans (feq hc22_6).1) (XS.aloadN X5.here hx rfl (hb hby d12_25) rfl rfl k)) ?_
  show Comes p e below _ (T5.setTop (mkF m 26 #[.val (.ref ea), .val (.ref eb), .val (.ref eb)] [(.ref ea)]))
  obtain ⟨T7, X7, e7, st7⟩ := getF X5 hx hZ hown (host := "") (Or.inl (hw _ (List.mem_of_getElem? (i := 25) rfl))) Via.refl e5 G2 (g := (mkF m 26 #[.val (.ref ea), .val (.ref eb), .val (.ref eb)] [(.ref ea)])) rfl rfl (hb hby d12_26)
  refine Comes.st st7 ?_
  show Comes p e below _ (T7.setTop (mkF m 29 #[.val (.ref ea), .val (.ref eb), .val (.ref eb)] [(.int (0 : Int32))]))
  refine Comes.st (fun t k => XS.aloadN X7.here hx rfl (hb hby d12_29) rfl rfl k) ?_
  show Comes p e below _ (T7.setTop (mkF m 30 #[.val (.ref ea), .val (.ref eb), .val (.ref eb)] [(.ref eb), (.int (0 : Int32))]))
  obtain ⟨T8, X8, e8, st8⟩ := getF X7 hx hZ hown (host := "") (Or.inl (hw _ (List.mem_of_getElem? (i := 25) rfl))) Via.refl e7 G7 (g := (mkF m 30 #[.val (.ref ea), .val (.ref eb), .val (.ref eb)] [(.ref eb), (.int (0 : Int32))])) rfl rfl (hb hby d12_30)
  refine Comes.st st8 ?_
  show Comes p e below _ (T8.setTop (mkF m 33 #[.val (.ref ea), .val (.ref eb), .val (.ref eb)] [(.int (0 : Int32)), (.int (0 : Int32))]))
  have hc33_9 : (0 : Int32) = (0 : Int32) := by decide
  refine Comes.st (fun t k => XS.icmpNo X8.here hx rfl (hb hby d12_33) rfl (teq hc33_9).2 (XS.aloadN X8.here hx rfl (hb hby d12_36) rfl rfl k)) ?_
  show Comes p e below _ (T8.setTop (mkF m 37 #[.val (.ref ea), .val (.ref eb), .val (.ref eb)] [(.ref ea)]))
  obtain ⟨T10, X10, e10, st10⟩ := getF X8 hx hZ hown (host := "") (Or.inl (hw _ (List.mem_of_getElem? (i := 24) rfl))) Via.refl e8 G1 (g := (mkF m 37 #[.val (.ref ea), .val (.ref eb), .val (.ref eb)] [(.ref ea)])) rfl rfl (hb hby d12_37)
  refine Comes.st st10 ?_
  show Comes p e below _ (T10.setTop (mkF m 40 #[.val (.ref ea), .val (.ref eb), .val (.ref eb)] [(.ref va)]))
  refine Comes.st (fun t k => XS.aloadN X10.here hx rfl (hb hby d12_40) rfl rfl k) ?_
  show Comes p e below _ (T10.setTop (mkF m 41 #[.val (.ref ea), .val (.ref eb), .val (.ref eb)] [(.ref eb), (.ref va)]))
  obtain ⟨T11, X11, e11, st11⟩ := getF X10 hx hZ hown (host := "") (Or.inl (hw _ (List.mem_of_getElem? (i := 24) rfl))) Via.refl e10 G6 (g := (mkF m 41 #[.val (.ref ea), .val (.ref eb), .val (.ref eb)] [(.ref eb), (.ref va)])) rfl rfl (hb hby d12_41)
  refine Comes.st st11 ?_
  show Comes p e below _ (T11.setTop (mkF m 44 #[.val (.ref ea), .val (.ref eb), .val (.ref eb)] [(.ref vb), (.ref va)]))
  obtain ⟨_, _, ⟨T12, L12, k12, n12⟩, -, X12, ⟨Lc12, hQ12, l12, y12, z12⟩, st12⟩ := Jvm.LawKit.callS X11 hx (y := (⟨"java/lang/StringLatin1", "equals", "([B[B)Z"⟩ : MethodName)) hown (mvT hZ (hw _ (List.mem_of_getElem? (i := 70) rfl))) (mvT hZ (hw _ (List.mem_of_getElem? (i := 71) rfl))) (mvT hZ (hw _ (List.mem_of_getElem? (i := 72) rfl))) (mvT hZ (hw _ (List.mem_of_getElem? (i := 73) rfl))) (by decide) (backOf (W := 0) (leG l Z a0 hw [] va vb ka kb n mm ya yb yc za zb zc h0 n0 (by omega)  G3 G8 (by assumption) (by assumption)) hZ (hw _ (List.mem_of_getElem? (i := 73) rfl)) (hw _ (List.mem_of_getElem? (i := 72) rfl)) (by decide) (by decide)) (g := (mkF m 44 #[.val (.ref ea), .val (.ref eb), .val (.ref eb)] [(.ref vb), (.ref va)])) rfl (by rw [hml]; rfl) (argsL := [(.ref va), (.ref vb)]) (rest := []) (lenOf pd_5 rfl) rfl (by show 2 * 0 + _ ≤ _; exact Nat.le_of_eq rfl) (hb hby d12_44) (fun _ _ => ⟨rfl, e11, (by decide : 0 + 0 ≤ _), (by decide : 0 + 0 ≤ _)⟩)
  dsimp only [Pt.U, Pt.locs, Pt.cells, Pt.slots] at X12 l12 y12 z12 st12 hQ12
  subst l12 y12 z12
  obtain ⟨r13, rfl, Nq12, hs12, P12_0⟩ := hQ12
  have N12 := Fr.app N0 Nq12
  refine Comes.st st12 ?_
  have hsp14 : r13 = (0 : Int32) ∨ r13 = (1 : Int32) := by exact own_eqs01 P12_0
  rcases hsp14 with rfl | rfl
  · show Comes p e below _ (T12.setTop (mkF m 47 #[.val (.ref ea), .val (.ref eb), .val (.ref eb)] [(.int (0 : Int32))]))
    have hc47_15 : (0 : Int32) = (0 : Int32) := by decide
    refine Comes.st (fun t k => XS.ifYes X12.here hx rfl (pc0 := 47) (pc' := 54) rfl (hb hby d12_47) rfl ((if0 _ _).trans (teq hc47_15).1) (by decide) (by decide) (XS.iconst X12.here hx rfl (hb hby d12_54) k)) ?_
    show Comes p e below _ (T12.setTop (mkF m 55 #[.val (.ref ea), .val (.ref eb), .val (.ref eb)] [(.int (0 : Int32))]))
    exact Comes.retN X12 hx (t := .boolean) Bd.returns (by simp) hlk (hb hby d12_55) hs12 ⟨(0 : Int32), rfl, N12, rfl, (by assumption)⟩ (by decide) (by decide)
  · show Comes p e below _ (T12.setTop (mkF m 47 #[.val (.ref ea), .val (.ref eb), .val (.ref eb)] [(.int (1 : Int32))]))
    have hc47_16 : ¬ ((1 : Int32) = (0 : Int32)) := by decide
    refine Comes.st (fun t k => XS.ifNo X12.here hx rfl (hb hby d12_47) rfl ((if0 _ _).trans (feq hc47_16).1) (XS.iconst X12.here hx rfl (hb hby d12_50) (XS.goto X12.here hx rfl (pc0 := 51) (pc' := 55) rfl (hb hby d12_51) (by decide) (by decide) k))) ?_
    show Comes p e below _ (T12.setTop (mkF m 55 #[.val (.ref ea), .val (.ref eb), .val (.ref eb)] [(.int (1 : Int32))]))
    exact Comes.retN X12 hx (t := .boolean) Bd.returns (by simp) hlk (hb hby d12_55) hs12 ⟨(1 : Int32), rfl, N12, rfl, (by assumption)⟩ (by decide) (by decide)
def Q_seS (Z : State) (ea : Nat) (h0 : Heap) (n0 : Nat) (v_ : Option Value) (h : Heap) (L_ : List Loc) : Prop := (v_ = some (.int (1 : Int32))) ∧ (Fr n0 L_) ∧ (h = h0)
set_option maxRecDepth 65536 in
set_option maxHeartbeats 40000000 in
theorem seS (l : Launch) (Z : State) (a0 : Array Value) (hw : ∀ d ∈ tables_1, d.before a0 Z = true) (ws : List Jvm.Cond) (ea : Nat) (h0 : Heap) (n0 : Nat) (Z0 : n0 ≤ h0.size) (G0 : Exa Z h0 ea "java/lang/String") :
    MetFree l (⟨"java/lang/String", "equals", "(Ljava/lang/Object;)Z"⟩ : MethodName) (head1 (Jvm.Cond.code (⟨"java/lang/String", "equals", "(Ljava/lang/Object;)Z"⟩ : MethodName) jdk_42_method_66_code 3 (some .boolean) :: ws) ({ frames := 0, cells := 0, slots := 0, locals := 0 } : Room)) (fun a_ U_ => a_ = #[(.ref ea), (.ref ea)] ∧ Z.Warmed39 U_.vm ∧ U_.heap = h0) (fun _ _ _ _ _ => True) (fun _ U_ o_ V_ => ∃ v_ L_, o_ = .returned v_ ∧ Q_seS Z ea h0 n0 v_ V_.heap L_ ∧ FrameEnd U_ o_ V_ L_ ({ frames := 0, cells := 0, slots := 0, locals := 0 } : Room).cells ({ frames := 0, cells := 0, slots := 0, locals := 0 } : Room).slots) := by
  refine MetFree.of_bodySF (plainFor_of_name pn_12) hisR ?_
  intro p e s m args below meth c s₁ Bd hml0 hP hK
  obtain ⟨rfl, hZ, hh⟩ := hP
  have hx := Bd.exec
  have hby := Bd.bytes
  have hml : c.maxLocals = 3 := hml0
  have hown : s.vm.findClass "java/lang/String" = some m.cls := findClass_of_methodNamed Bd.named
  have hnm := (name_of_methodNamed Bd.named Bd.method).1
  have hlk : meth.locks = false := Bd.notSynchronized
  have X0 : Stand p l e ({ frames := 0, cells := 0, slots := 0, locals := 0 } : Room) s m #[(.ref ea), (.ref ea)] below meth c s₁ [] 0 0 := Stand.of_body Bd
  have e0 : s₁.heap = h0 := by rw [← hh, Bd.state]; rfl
  have N0 := Fr.nil n0
  refine Comes.out (Q := Q_seS Z ea h0 n0) (kc := ({ frames := 0, cells := 0, slots := 0, locals := 0 } : Room).cells) (ks := ({ frames := 0, cells := 0, slots := 0, locals := 0 } : Room).slots) ?_
  refine Comes.cast (ef_seS m ea ea) ?_
  have lt_ea : ea < h0.size := G0.lt
  show Comes p e below _ (s₁.setTop (mkF m 0 #[.val (.ref ea), .val (.ref ea), .unset] []))
  refine Comes.st (fun t k => XS.aloadN X0.here hx rfl (hb hby d12_0) rfl rfl (XS.aloadN X0.here hx rfl (hb hby d12_1) rfl rfl k)) ?_
  show Comes p e below _ (s₁.setTop (mkF m 2 #[.val (.ref ea), .val (.ref ea), .unset] [(.ref ea), (.ref ea)]))
  have hc2_1 : ea = ea := by rfl
  refine Comes.st (fun t k => Jvm.RoadKit.acmp (g := (mkF m 2 #[.val (.ref ea), .val (.ref ea), .unset] [(.ref ea), (.ref ea)])) X0 hx rfl rfl rfl (pc0 := 2) (pc' := 5) (same := true) rfl (hb hby d12_2) rfl (decide_eq_true (congrArg Value.ref hc2_1)) (by decide) (by decide) (XS.iconst X0.here hx rfl (hb hby d12_5) k)) ?_
  show Comes p e below _ (s₁.setTop (mkF m 6 #[.val (.ref ea), .val (.ref ea), .unset] [(.int (1 : Int32))]))
  exact Comes.retN X0 hx (t := .boolean) Bd.returns (by simp) hlk (hb hby d12_6) e0 ⟨rfl, N0, rfl⟩ (by decide) (by decide)
def Q_rm9 (Z : State) (ob ms : Nat) (h0 : Heap) (n0 : Nat) (v_ : Option Value) (h : Heap) (L_ : List Loc) : Prop := (v_ = some (.ref ob)) ∧ (Fr n0 L_) ∧ (h = h0)
set_option maxRecDepth 65536 in
set_option maxHeartbeats 40000000 in
theorem rm9 (l : Launch) (Z : State) (a0 : Array Value) (hw : ∀ d ∈ tables_1, d.before a0 Z = true) (ws : List Jvm.Cond) (ob ms : Nat) (h0 : Heap) (n0 : Nat) (Z0 : n0 ≤ h0.size) :
    MetFree l (⟨"java/util/Objects", "requireNonNull", "(Ljava/lang/Object;Ljava/lang/String;)Ljava/lang/Object;"⟩ : MethodName) (head1 (Jvm.Cond.code (⟨"java/util/Objects", "requireNonNull", "(Ljava/lang/Object;Ljava/lang/String;)Ljava/lang/Object;"⟩ : MethodName) jdk_31_method_11_code 2 (some (.object "java/lang/Object")) :: ws) ({ frames := 0, cells := 0, slots := 0, locals := 0 } : Room)) (fun a_ U_ => a_ = #[(.ref ob), (.ref ms)] ∧ Z.Warmed39 U_.vm ∧ U_.heap = h0) (fun _ _ _ _ _ => True) (fun _ U_ o_ V_ => ∃ v_ L_, o_ = .returned v_ ∧ Q_rm9 Z ob ms h0 n0 v_ V_.heap L_ ∧ FrameEnd U_ o_ V_ L_ ({ frames := 0, cells := 0, slots := 0, locals := 0 } : Room).cells ({ frames := 0, cells := 0, slots := 0, locals := 0 } : Room).slots) := by
  refine MetFree.of_bodySF (plainFor_of_name pn_9) hisR ?_
  intro p e s m args below meth c s₁ Bd hml0 hP hK
  obtain ⟨rfl, hZ, hh⟩ := hP
  have hx := Bd.exec
  have hby := Bd.bytes
  have hml : c.maxLocals = 2 := hml0
  have hown : s.vm.findClass "java/util/Objects" = some m.cls := findClass_of_methodNamed Bd.named
  have hnm := (name_of_methodNamed Bd.named Bd.method).1
  have hlk : meth.locks = false := Bd.notSynchronized
  have X0 : Stand p l e ({ frames := 0, cells := 0, slots := 0, locals := 0 } : Room) s m #[(.ref ob), (.ref ms)] below meth c s₁ [] 0 0 := Stand.of_body Bd
  have e0 : s₁.heap = h0 := by rw [← hh, Bd.state]; rfl
  have N0 := Fr.nil n0
  refine Comes.out (Q := Q_rm9 Z ob ms h0 n0) (kc := ({ frames := 0, cells := 0, slots := 0, locals := 0 } : Room).cells) (ks := ({ frames := 0, cells := 0, slots := 0, locals := 0 } : Room).slots) ?_
  refine Comes.cast (ef_rm9 m ob ms) ?_
  show Comes p e below _ (s₁.setTop (mkF m 0 #[.val (.ref ob), .val (.ref ms)] []))
  refine Comes.st (fun t k => XS.aloadN X0.here hx rfl (hb hby d9_0) rfl rfl (XS.ifnonnullYes X0.here hx rfl (pc0 := 1) (pc' := 13) rfl (hb hby d9_1) rfl (by decide) (by decide) (XS.aloadN X0.here hx rfl (hb hby d9_13) rfl rfl k))) ?_
  show Comes p e below _ (s₁.setTop (mkF m 14 #[.val (.ref ob), .val (.ref ms)] [(.ref ob)]))
  exact Comes.retV X0 hx Bd.returns (narrow_ref rfl) (Or.inr (Or.inr (Or.inr (Or.inr ⟨rfl, rfl, rfl⟩)))) hlk (hb hby d9_14) e0 ⟨rfl, N0, rfl⟩ (by decide) (by decide)
def Q_rm8 (Z : State) (ob sa : Nat) (cn : Int64) (h0 : Heap) (n0 : Nat) (v_ : Option Value) (h : Heap) (L_ : List Loc) : Prop := (v_ = none) ∧ (Fr n0 L_) ∧ (Keep h0 h [ob]) ∧ (Exa Z h ob "com/example/soft_throttle/softthrottle/usage/RequestCount") ∧ (Fld Z h ob "com/example/soft_throttle/softthrottle/usage/RequestCount" "request" "Ljava/lang/String;" (.ref sa)) ∧ (Fld Z h ob "com/example/soft_throttle/softthrottle/usage/RequestCount" "count" "J" (.long cn))
set_option maxRecDepth 65536 in
set_option maxHeartbeats 40000000 in
theorem rm8 (l : Launch) (Z : State) (a0 : Array Value) (hw : ∀ d ∈ tables_1, d.before a0 Z = true) (ws : List Jvm.Cond) (ob sa : Nat) (cn : Int64) (h0 : Heap) (n0 : Nat) (Z0 : n0 ≤ h0.size) (G0 : Exa Z h0 ob "com/example/soft_throttle/softthrottle/usage/RequestCount") (G1 : Fld Z h0 ob "com/example/soft_throttle/softthrottle/usage/RequestCount" "request" "Ljava/lang/String;" .null) (G2 : Fld Z h0 ob "com/example/soft_throttle/softthrottle/usage/RequestCount" "count" "J" (.long (0 : Int64))) (G3 : Exa Z h0 sa "java/lang/String") (G4 : n0 ≤ ob) :
    MetFree l (⟨"com/example/soft_throttle/softthrottle/usage/RequestCount", "<init>", "(Ljava/lang/String;J)V"⟩ : MethodName) (head1 (Jvm.Cond.code (⟨"com/example/soft_throttle/softthrottle/usage/RequestCount", "<init>", "(Ljava/lang/String;J)V"⟩ : MethodName) prog_39_method_1_code 4 none :: ws) ({ frames := 1, cells := 2, slots := 32, locals := 14 } : Room)) (fun a_ U_ => a_ = #[(.ref ob), (.ref sa), (.long cn)] ∧ Z.Warmed39 U_.vm ∧ U_.heap = h0) (fun _ _ _ _ _ => True) (fun _ U_ o_ V_ => ∃ v_ L_, o_ = .returned v_ ∧ Q_rm8 Z ob sa cn h0 n0 v_ V_.heap L_ ∧ ReturnedEndW U_ o_ V_ L_ ({ frames := 1, cells := 2, slots := 32, locals := 14 } : Room).cells ({ frames := 1, cells := 2, slots := 32, locals := 14 } : Room).slots) := by
  refine MetFree.of_bodySF (plainFor_of_name pn_8) hisR ?_
  intro p e s m args below meth c s₁ Bd hml0 hP hK
  obtain ⟨rfl, hZ, hh⟩ := hP
  have hx := Bd.exec
  have hby := Bd.bytes
  have hml : c.maxLocals = 4 := hml0
  have hown : s.vm.findClass "com/example/soft_throttle/softthrottle/usage/RequestCount" = some m.cls := findClass_of_methodNamed Bd.named
  have hnm := (name_of_methodNamed Bd.named Bd.method).1
  have hlk : meth.locks = false := Bd.notSynchronized
  have X0 : Stand p l e ({ frames := 1, cells := 2, slots := 32, locals := 14 } : Room) s m #[(.ref ob), (.ref sa), (.long cn)] below meth c s₁ [] 0 0 := Stand.of_body Bd
  have e0 : s₁.heap = h0 := by rw [← hh, Bd.state]; rfl
  have N0 := Fr.nil n0
  have hS0 : s.Since s.vm 0 := (State.WarmedH.refl s).since 0
  have K0 := Keep.refl h0 [ob]
  refine Comes.outW (Q := Q_rm8 Z ob sa cn h0 n0) (kc := ({ frames := 1, cells := 2, slots := 32, locals := 14 } : Room).cells) (ks := ({ frames := 1, cells := 2, slots := 32, locals := 14 } : Room).slots) ?_
  refine Comes.cast (ef_rm8 m ob sa cn) ?_
  have lt_ob : ob < h0.size := G0.lt
  have lt_sa : sa < h0.size := G3.lt
  show Comes p e below _ (s₁.setTop (mkF m 0 #[.val (.ref ob), .val (.ref sa), .val (.long cn), .second] []))
  refine Comes.st (fun t k => XS.aloadN X0.here hx rfl (hb hby d8_0) rfl rfl k) ?_
  show Comes p e below _ (s₁.setTop (mkF m 1 #[.val (.ref ob), .val (.ref sa), .val (.long cn), .second] [(.ref ob)]))
  obtain ⟨T1, X1, e1, st1⟩ := initO X0 hx hZ hown (hw _ (List.mem_of_getElem? (i := 43) rfl)) (hw _ (List.mem_of_getElem? (i := 16) rfl)) (hw _ (List.mem_of_getElem? (i := 17) rfl)) e0 (g := (mkF m 1 #[.val (.ref ob), .val (.ref sa), .val (.long cn), .second] [(.ref ob)])) rfl (by rw [hml]; rfl) rfl (hb hby d8_1) (by decide) (W := 0) (by show 2 * 0 + _ ≤ _; exact Nat.le_of_eq rfl) (by decide)
  refine Comes.st st1 ?_
  show Comes p e below _ (T1.setTop (mkF m 4 #[.val (.ref ob), .val (.ref sa), .val (.long cn), .second] []))
  refine Comes.st (fun t k => XS.aloadN X1.here hx rfl (hb hby d8_4) rfl rfl (XS.aloadN X1.here hx rfl (hb hby d8_5) rfl rfl k)) ?_
  obtain ⟨b2, T2, h2, k2, X2, e2, E2, hS2, hk2, hZ, hown, st2⟩ := ldcS (s := s) (vm0 := s.vm) X1 hx hZ hown (hw _ (List.mem_of_getElem? (i := 44) rfl)) (fun d hd => by simp only [Bundle.stringAtoms, List.mem_cons, List.not_mem_nil, or_false] at hd; rcases hd with rfl | rfl | rfl | rfl | rfl | rfl | rfl; exact hw _ (List.mem_of_getElem? (i := 6) rfl); exact hw _ (List.mem_of_getElem? (i := 5) rfl); exact hw _ (List.mem_of_getElem? (i := 19) rfl); exact hw _ (List.mem_of_getElem? (i := 20) rfl); exact hw _ (List.mem_of_getElem? (i := 21) rfl); exact hw _ (List.mem_of_getElem? (i := 22) rfl); exact hw _ (List.mem_of_getElem? (i := 23) rfl)) e1 hS0 (Nat.zero_le _) (g := (mkF m 6 #[.val (.ref ob), .val (.ref sa), .val (.long cn), .second] [(.ref sa), (.ref ob)])) rfl (hb hby d8_6) (n := 28) (by decide) (by decide) (by decide) (by decide)
  have z2 : h0.size ≤ h2.size := E2.1
  have K2 : Keep h0 h2 [ob] := K0.ext E2
  refine Comes.st st2 ?_
  show Comes p e below _ (T2.setTop (mkF m 8 #[.val (.ref ob), .val (.ref sa), .val (.long cn), .second] [(.ref b2), (.ref sa), (.ref ob)]))
  obtain ⟨_, _, ⟨T3, L3, k3, n3⟩, -, X3, ⟨Lc3, hQ3, l3, y3, z3⟩, st3⟩ := Jvm.LawKit.callS X2 hx (y := (⟨"java/util/Objects", "requireNonNull", "(Ljava/lang/Object;Ljava/lang/String;)Ljava/lang/Object;"⟩ : MethodName)) hown (mvT hZ (hw _ (List.mem_of_getElem? (i := 45) rfl))) (mvT hZ (hw _ (List.mem_of_getElem? (i := 46) rfl))) (mvT hZ (hw _ (List.mem_of_getElem? (i := 47) rfl))) (mvT hZ (hw _ (List.mem_of_getElem? (i := 48) rfl))) (by decide) (backOf (W := 1) (rm9 l Z a0 hw [] sa b2 h2 n0 (by omega)  ) hZ (hw _ (List.mem_of_getElem? (i := 48) rfl)) (hw _ (List.mem_of_getElem? (i := 47) rfl)) (by decide) (by decide)) (g := (mkF m 8 #[.val (.ref ob), .val (.ref sa), .val (.long cn), .second] [(.ref b2), (.ref sa), (.ref ob)])) rfl (by rw [hml]; rfl) (argsL := [(.ref sa), (.ref b2)]) (rest := [(.ref ob)]) (lenOf pd_6 rfl) rfl (by show 2 * 0 + _ ≤ _; exact Nat.le_of_eq rfl) (hb hby d8_8) (fun _ _ => ⟨rfl, e2, (by decide : 2 + 0 ≤ _), (by decide : 32 + 0 ≤ _)⟩)
  dsimp only [Pt.U, Pt.locs, Pt.cells, Pt.slots] at X3 l3 y3 z3 st3 hQ3
  subst l3 y3 z3
  obtain ⟨rfl, Nq3, hs3⟩ := hQ3
  have N3 := Fr.app N0 Nq3
  refine Comes.st st3 ?_
  show Comes p e below _ (T3.setTop (mkF m 11 #[.val (.ref ob), .val (.ref sa), .val (.long cn), .second] [(.ref sa), (.ref ob)]))
  have F4 : Exa Z h2 sa "java/lang/String" := (G3.ext E2)
  obtain ⟨T5, X5, e5, st5⟩ := castY X3 hx hZ hown (hw _ (List.mem_of_getElem? (i := 49) rfl)) hs3 (Ins.self F4) (g := (mkF m 11 #[.val (.ref ob), .val (.ref sa), .val (.long cn), .second] [(.ref sa), (.ref ob)])) rfl rfl (hb hby d8_11)
  refine Comes.st st5 ?_
  show Comes p e below _ (T5.setTop (mkF m 14 #[.val (.ref ob), .val (.ref sa), .val (.long cn), .second] [(.ref sa), (.ref ob)]))
  have F6 : Exa Z h2 ob "com/example/soft_throttle/softthrottle/usage/RequestCount" := (G0.ext E2)
  have F7 : Fld Z h2 ob "com/example/soft_throttle/softthrottle/usage/RequestCount" "request" "Ljava/lang/String;" .null := (G1.ext E2)
  obtain ⟨T8, h8, X8, e8, W8, st8⟩ := putF X5 hx hZ hown (host := "") (Or.inl (hw _ (List.mem_of_getElem? (i := 50) rfl))) Via.refl e5 F7 F6 (Or.inr ⟨(hw _ (List.mem_of_getElem? (i := 51) rfl)), rfl, hnm⟩) (hw _ (List.mem_of_getElem? (i := 38) rfl)) (ty := (.object "java/lang/String")) (by decide) rfl rfl (g := (mkF m 14 #[.val (.ref ob), .val (.ref sa), .val (.long cn), .second] [(.ref sa), (.ref ob)])) rfl rfl (hb hby d8_14)
  have Fw8 := F7.same W8
  have z8 : h8.size = h2.size := W8.size
  have gn9 : n0 ≤ ob := by omega
  have N8 := Fr.snoc X8 N3 gn9
  have K8 : Keep h0 h8 [ob] := K2.wr W8 (Or.inl (List.mem_of_getElem? (i := 0) rfl))
  refine Comes.st st8 ?_
  show Comes p e below _ (T8.setTop (mkF m 17 #[.val (.ref ob), .val (.ref sa), .val (.long cn), .second] []))
  refine Comes.st (fun t k => XS.aloadN X8.here hx rfl (hb hby d8_17) rfl rfl (XS.lloadN X8.here hx rfl (hb hby d8_18) rfl k)) ?_
  show Comes p e below _ (T8.setTop (mkF m 19 #[.val (.ref ob), .val (.ref sa), .val (.long cn), .second] [(.long cn), (.ref ob)]))
  have F10 : Exa Z h8 ob "com/example/soft_throttle/softthrottle/usage/RequestCount" := (F6.wr W8)
  have F11 : Fld Z h8 ob "com/example/soft_throttle/softthrottle/usage/RequestCount" "count" "J" (.long (0 : Int64)) := ((G2.ext E2).other W8 (Or.inr (slot_ne (Or.inr (hw _ (List.mem_of_getElem? (i := 53) rfl))) (Or.inr (hw _ (List.mem_of_getElem? (i := 51) rfl))) (by decide) (t := .long) (t' := (.object "java/lang/String")) (by decide) (by decide))))
  obtain ⟨T12, h12, X12, e12, W12, st12⟩ := putF X8 hx hZ hown (host := "") (Or.inl (hw _ (List.mem_of_getElem? (i := 52) rfl))) Via.refl e8 F11 F10 (Or.inr ⟨(hw _ (List.mem_of_getElem? (i := 53) rfl)), rfl, hnm⟩) (hw _ (List.mem_of_getElem? (i := 38) rfl)) (ty := .long) (by decide) rfl rfl (g := (mkF m 19 #[.val (.ref ob), .val (.ref sa), .val (.long cn), .second] [(.long cn), (.ref ob)])) rfl rfl (hb hby d8_19)
  have Fw12 := F11.same W12
  have z12 : h12.size = h8.size := W12.size
  have N12 := Fr.snoc X12 N8 gn9
  have K12 : Keep h0 h12 [ob] := K8.wr W12 (Or.inl (List.mem_of_getElem? (i := 0) rfl))
  refine Comes.st st12 ?_
  show Comes p e below _ (T12.setTop (mkF m 22 #[.val (.ref ob), .val (.ref sa), .val (.long cn), .second] []))
  have F13 : Exa Z h12 ob "com/example/soft_throttle/softthrottle/usage/RequestCount" := (F10.wr W12)
  have F14 : Fld Z h12 ob "com/example/soft_throttle/softthrottle/usage/RequestCount" "request" "Ljava/lang/String;" (.ref sa) := (Fw8.other W12 (Or.inr (slot_ne (Or.inr (hw _ (List.mem_of_getElem? (i := 51) rfl))) (Or.inr (hw _ (List.mem_of_getElem? (i := 53) rfl))) (by decide) (t := (.object "java/lang/String")) (t' := .long) (by decide) (by decide))))
  have hkf : k2 ≤ h12.size := by omega
  exact Comes.wret0 X12 hx Bd.returns hlk (hb hby d8_22) hS2 hkf e12 ⟨rfl, N12, K12, F13, F14, Fw12⟩ (by decide) (by decide)
def Q_reN (Z : State) (ob q sa sb : Nat) (c1 c2 : Int64) (va vb : Nat) (ka kb : ClassId) (n mm ya yb yc za zb zc cs : Int32) (h0 : Heap) (n0 : Nat) (v_ : Option Value) (h : Heap) (L_ : List Loc) : Prop := ∃ (r : Int32), (v_ = some (.int r)) ∧ (Fr n0 L_) ∧ (h = h0) ∧ (own_ans n ya yb yc mm za zb zc r c1 c2)
set_option maxRecDepth 65536 in
set_option maxHeartbeats 40000000 in
theorem reN (l : Launch) (Z : State) (a0 : Array Value) (hw : ∀ d ∈ tables_1, d.before a0 Z = true) (ws : List Jvm.Cond) (ob q sa sb : Nat) (c1 c2 : Int64) (va vb : Nat) (ka kb : ClassId) (n mm ya yb yc za zb zc cs : Int32) (h0 : Heap) (n0 : Nat) (Z0 : n0 ≤ h0.size) (G0 : Exa Z h0 ob "com/example/soft_throttle/softthrottle/usage/RequestCount") (G1 : Fld Z h0 ob "com/example/soft_throttle/softthrottle/usage/RequestCount" "request" "Ljava/lang/String;" (.ref sa)) (G2 : Fld Z h0 ob "com/example/soft_throttle/softthrottle/usage/RequestCount" "count" "J" (.long c1)) (G3 : Exa Z h0 q "com/example/soft_throttle/softthrottle/usage/RequestCount") (G4 : Fld Z h0 q "com/example/soft_throttle/softthrottle/usage/RequestCount" "request" "Ljava/lang/String;" (.ref sb)) (G5 : Fld Z h0 q "com/example/soft_throttle/softthrottle/usage/RequestCount" "count" "J" (.long c2)) (G6 : Exa Z h0 sa "java/lang/String") (G7 : Fld Z h0 sa "java/lang/String" "value" "[B" (.ref va)) (G8 : Fld Z h0 sa "java/lang/String" "coder" "B" (.int (0 : Int32))) (G9 : Arv Z h0 va ka .byte n (own_bs n ya yb yc) (.int (0 : Int32))) (G10 : 0 ≤ n.toInt ∧ n.toInt ≤ 3) (G11 : Exa Z h0 sb "java/lang/String") (G12 : Fld Z h0 sb "java/lang/String" "value" "[B" (.ref vb)) (G13 : Fld Z h0 sb "java/lang/String" "coder" "B" (.int (0 : Int32))) (G14 : Arv Z h0 vb kb .byte mm (own_bs mm za zb zc) (.int (0 : Int32))) (G15 : 0 ≤ mm.toInt ∧ mm.toInt ≤ 3) (G16 : Sta Z Z.heap "java/lang/String" "COMPACT_STRINGS" "Z" (.int cs)) (G17 : ¬ (cs = (0 : Int32))) (G18 : Old Z n0 h0) (G19 : sa ≠ sb) :
    MetFree l (⟨"com/example/soft_throttle/softthrottle/usage/RequestCount", "equals", "(Ljava/lang/Object;)Z"⟩ : MethodName) (head1 (Jvm.Cond.code (⟨"com/example/soft_throttle/softthrottle/usage/RequestCount", "equals", "(Ljava/lang/Object;)Z"⟩ : MethodName) prog_39_method_4_code 2 (some .boolean) :: ws) ({ frames := 2, cells := 0, slots := 0, locals := 28 } : Room)) (fun a_ U_ => a_ = #[(.ref ob), (.ref q)] ∧ Z.Warmed39 U_.vm ∧ U_.heap = h0) (fun _ _ _ _ _ => True) (fun _ U_ o_ V_ => ∃ v_ L_, o_ = .returned v_ ∧ Q_reN Z ob q sa sb c1 c2 va vb ka kb n mm ya yb yc za zb zc cs h0 n0 v_ V_.heap L_ ∧ FrameEnd U_ o_ V_ L_ ({ frames := 2, cells := 0, slots := 0, locals := 28 } : Room).cells ({ frames := 2, cells := 0, slots := 0, locals := 28 } : Room).slots) := by
  refine MetFree.of_bodySF (plainFor_of_name pn_11) hisR ?_
  intro p e s m args below meth c s₁ Bd hml0 hP hK
  obtain ⟨rfl, hZ, hh⟩ := hP
  have hx := Bd.exec
  have hby := Bd.bytes
  have hml : c.maxLocals = 2 := hml0
  have hown : s.vm.findClass "com/example/soft_throttle/softthrottle/usage/RequestCount" = some m.cls := findClass_of_methodNamed Bd.named
  have hnm := (name_of_methodNamed Bd.named Bd.method).1
  have hlk : meth.locks = false := Bd.notSynchronized
  have X0 : Stand p l e ({ frames := 2, cells := 0, slots := 0, locals := 28 } : Room) s m #[(.ref ob), (.ref q)] below meth c s₁ [] 0 0 := Stand.of_body Bd
  have e0 : s₁.heap = h0 := by rw [← hh, Bd.state]; rfl
  have N0 := Fr.nil n0
  refine Comes.out (Q := Q_reN Z ob q sa sb c1 c2 va vb ka kb n mm ya yb yc za zb zc cs h0 n0) (kc := ({ frames := 2, cells := 0, slots := 0, locals := 28 } : Room).cells) (ks := ({ frames := 2, cells := 0, slots := 0, locals := 28 } : Room).slots) ?_
  refine Comes.cast (ef_reN m ob q) ?_
  have lt_ob : ob < h0.size := G0.lt
  have lt_q : q < h0.size := G3.lt
  have lt_sa : sa < h0.size := G6.lt
  have lt_va : va < h0.size := G9.lt
  have lt_sb : sb < h0.size := G11.lt
  have lt_vb : vb < h0.size := G14.lt
  show Comes p e below _ (s₁.setTop (mkF m 0 #[.val (.ref ob), .val (.ref q)] []))
  refine Comes.st (fun t k => XS.aloadN X0.here hx rfl (hb hby d11_0) rfl rfl k) ?_
  show Comes p e below _ (s₁.setTop (mkF m 1 #[.val (.ref ob), .val (.ref q)] [(.ref q)]))
  obtain ⟨T1, X1, e1, st1⟩ := instY X0 hx hZ hown (hw _ (List.mem_of_getElem? (i := 62) rfl)) e0 (Ins.self G3) (g := (mkF m 1 #[.val (.ref ob), .val (.ref q)] [(.ref q)])) rfl rfl (hb hby d11_1)
  refine Comes.st st1 ?_
  show Comes p e below _ (T1.setTop (mkF m 4 #[.val (.ref ob), .val (.ref q)] [(.int (1 : Int32))]))
  have hc4_2 : ¬ ((1 : Int32) = (0 : Int32)) := by decide
  refine Comes.st (fun t k => XS.ifNo X1.here hx rfl (hb hby d11_4) rfl ((if0 _ _).trans (feq hc4_2).1) (XS.aloadN X1.here hx rfl (hb hby d11_7) rfl rfl k)) ?_
  show Comes p e below _ (T1.setTop (mkF m 8 #[.val (.ref ob), .val (.ref q)] [(.ref ob)]))
  obtain ⟨T3, X3, e3, st3⟩ := getF X1 hx hZ hown (host := "") (Or.inl (hw _ (List.mem_of_getElem? (i := 50) rfl))) Via.refl e1 G1 (g := (mkF m 8 #[.val (.ref ob), .val (.ref q)] [(.ref ob)])) rfl rfl (hb hby d11_8)
  refine Comes.st st3 ?_
  show Comes p e below _ (T3.setTop (mkF m 11 #[.val (.ref ob), .val (.ref q)] [(.ref sa)]))
  refine Comes.st (fun t k => XS.aloadN X3.here hx rfl (hb hby d11_11) rfl rfl k) ?_
  show Comes p e below _ (T3.setTop (mkF m 12 #[.val (.ref ob), .val (.ref q)] [(.ref q), (.ref sa)]))
  obtain ⟨T4, X4, e4, st4⟩ := castY X3 hx hZ hown (hw _ (List.mem_of_getElem? (i := 62) rfl)) e3 (Ins.self G3) (g := (mkF m 12 #[.val (.ref ob), .val (.ref q)] [(.ref q), (.ref sa)])) rfl rfl (hb hby d11_12)
  refine Comes.st st4 ?_
  show Comes p e below _ (T4.setTop (mkF m 15 #[.val (.ref ob), .val (.ref q)] [(.ref q), (.ref sa)]))
  obtain ⟨T5, X5, e5, st5⟩ := getF X4 hx hZ hown (host := "") (Or.inl (hw _ (List.mem_of_getElem? (i := 50) rfl))) Via.refl e4 G4 (g := (mkF m 15 #[.val (.ref ob), .val (.ref q)] [(.ref q), (.ref sa)])) rfl rfl (hb hby d11_15)
  refine Comes.st st5 ?_
  show Comes p e below _ (T5.setTop (mkF m 18 #[.val (.ref ob), .val (.ref q)] [(.ref sb), (.ref sa)]))
  obtain ⟨cq6, kq6, q6a, q6b, q6c⟩ := isOf hZ e5 G6
  obtain ⟨_, _, ⟨T6, L6, k6, n6⟩, -, X6, ⟨Lc6, hQ6, l6, y6, z6⟩, st6⟩ := X5.virtualBack hx (y := (⟨"java/lang/String", "equals", "(Ljava/lang/Object;)Z"⟩ : MethodName)) (z := (⟨"java/lang/String", "equals", "(Ljava/lang/Object;)Z"⟩ : MethodName)) hown (mvT hZ (hw _ (List.mem_of_getElem? (i := 64) rfl))) (mvT hZ (hw _ (List.mem_of_getElem? (i := 65) rfl))) (notFace_of_selects (args := #[]) (mvT hZ (hw _ (List.mem_of_getElem? (i := 67) rfl)))) (mvT hZ (hw _ (List.mem_of_getElem? (i := 67) rfl))) (mvT hZ (hw _ (List.mem_of_getElem? (i := 66) rfl))) (by decide) (backOf (W := 0) (seN l Z a0 hw [] sa sb va vb ka kb n mm ya yb yc za zb zc cs h0 n0 (by omega)  G6 G7 G8 G9 (by assumption) G11 G12 G13 G14 (by assumption) G16 (by assumption) G18 G19) hZ (hw _ (List.mem_of_getElem? (i := 68) rfl)) (hw _ (List.mem_of_getElem? (i := 6) rfl)) (by decide) (by decide)) q6a q6c (g := (mkF m 18 #[.val (.ref ob), .val (.ref q)] [(.ref sb), (.ref sa)])) rfl (by rw [hml]; rfl) (Steps.refl _) (argsL := [(.ref sb)]) (rest := []) (lenOf pd_7 rfl) rfl (by show 2 * 0 + _ ≤ _; exact Nat.le_of_eq rfl) (hb hby d11_18) (fun _ _ => ⟨rfl, e5, (by decide : 0 + 0 ≤ _), (by decide : 0 + 0 ≤ _)⟩)
  dsimp only [Pt.U, Pt.locs, Pt.cells, Pt.slots] at X6 l6 y6 z6 st6 hQ6
  subst l6 y6 z6
  obtain ⟨r7, rfl, Nq6, hs6, P6_0⟩ := hQ6
  have N6 := Fr.app N0 Nq6
  refine Comes.go st6 ?_
  have hsp8 : r7 = (0 : Int32) ∨ r7 = (1 : Int32) := by exact own_eqs01 P6_0
  rcases hsp8 with rfl | rfl
  · show Comes p e below _ (T6.setTop (mkF m 21 #[.val (.ref ob), .val (.ref q)] [(.int (0 : Int32))]))
    have hc21_9 : (0 : Int32) = (0 : Int32) := by decide
    refine Comes.st (fun t k => XS.ifYes X6.here hx rfl (pc0 := 21) (pc' := 43) rfl (hb hby d11_21) rfl ((if0 _ _).trans (teq hc21_9).1) (by decide) (by decide) (XS.iconst X6.here hx rfl (hb hby d11_43) k)) ?_
    show Comes p e below _ (T6.setTop (mkF m 44 #[.val (.ref ob), .val (.ref q)] [(.int (0 : Int32))]))
    exact Comes.retN X6 hx (t := .boolean) Bd.returns (by simp) hlk (hb hby d11_44) hs6 ⟨(0 : Int32), rfl, N6, rfl, (by refine ⟨_, P6_0, ?_⟩; first | exact Or.inl ⟨rfl, rfl, by assumption⟩ | exact Or.inr ⟨rfl, Or.inl rfl⟩ | exact Or.inr ⟨rfl, Or.inr (by assumption)⟩)⟩ (by decide) (by decide)
  · show Comes p e below _ (T6.setTop (mkF m 21 #[.val (.ref ob), .val (.ref q)] [(.int (1 : Int32))]))
    have hc21_10 : ¬ ((1 : Int32) = (0 : Int32)) := by decide
    refine Comes.st (fun t k => XS.ifNo X6.here hx rfl (hb hby d11_21) rfl ((if0 _ _).trans (feq hc21_10).1) (XS.aloadN X6.here hx rfl (hb hby d11_24) rfl rfl k)) ?_
    show Comes p e below _ (T6.setTop (mkF m 25 #[.val (.ref ob), .val (.ref q)] [(.ref ob)]))
    obtain ⟨T11, X11, e11, st11⟩ := getF X6 hx hZ hown (host := "") (Or.inl (hw _ (List.mem_of_getElem? (i := 52) rfl))) Via.refl hs6 G2 (g := (mkF m 25 #[.val (.ref ob), .val (.ref q)] [(.ref ob)])) rfl rfl (hb hby d11_25)
    refine Comes.st st11 ?_
    show Comes p e below _ (T11.setTop (mkF m 28 #[.val (.ref ob), .val (.ref q)] [(.long c1)]))
    refine Comes.st (fun t k => XS.aloadN X11.here hx rfl (hb hby d11_28) rfl rfl k) ?_
    show Comes p e below _ (T11.setTop (mkF m 29 #[.val (.ref ob), .val (.ref q)] [(.ref q), (.long c1)]))
    obtain ⟨T12, X12, e12, st12⟩ := castY X11 hx hZ hown (hw _ (List.mem_of_getElem? (i := 62) rfl)) e11 (Ins.self G3) (g := (mkF m 29 #[.val (.ref ob), .val (.ref q)] [(.ref q), (.long c1)])) rfl rfl (hb hby d11_29)
    refine Comes.st st12 ?_
    show Comes p e below _ (T12.setTop (mkF m 32 #[.val (.ref ob), .val (.ref q)] [(.ref q), (.long c1)]))
    obtain ⟨T13, X13, e13, st13⟩ := getF X12 hx hZ hown (host := "") (Or.inl (hw _ (List.mem_of_getElem? (i := 52) rfl))) Via.refl e12 G5 (g := (mkF m 32 #[.val (.ref ob), .val (.ref q)] [(.ref q), (.long c1)])) rfl rfl (hb hby d11_32)
    refine Comes.st st13 ?_
    show Comes p e below _ (T13.setTop (mkF m 35 #[.val (.ref ob), .val (.ref q)] [(.long c2), (.long c1)]))
    refine Comes.st (fun t k => XS.lcmp X13.here hx rfl (hb hby d11_35) rfl k) ?_
    show Comes p e below _ (T13.setTop (mkF m 36 #[.val (.ref ob), .val (.ref q)] [(.int (lcmpW c1 c2))]))
    by_cases hc36_14 : c1 = c2
    · refine Comes.st (fun t k => XS.ifNo X13.here hx rfl (hb hby d11_36) rfl ((if0 _ _).trans (teq ((lw_eq _ _).mpr hc36_14)).2) (XS.iconst X13.here hx rfl (hb hby d11_39) (XS.goto X13.here hx rfl (pc0 := 40) (pc' := 44) rfl (hb hby d11_40) (by decide) (by decide) k))) ?_
      show Comes p e below _ (T13.setTop (mkF m 44 #[.val (.ref ob), .val (.ref q)] [(.int (1 : Int32))]))
      exact Comes.retN X13 hx (t := .boolean) Bd.returns (by simp) hlk (hb hby d11_44) e13 ⟨(1 : Int32), rfl, N6, rfl, (by refine ⟨_, P6_0, ?_⟩; first | exact Or.inl ⟨rfl, rfl, by assumption⟩ | exact Or.inr ⟨rfl, Or.inl rfl⟩ | exact Or.inr ⟨rfl, Or.inr (by assumption)⟩)⟩ (by decide) (by decide)
    · refine Comes.st (fun t k => XS.ifYes X13.here hx rfl (pc0 := 36) (pc' := 43) rfl (hb hby d11_36) rfl ((if0 _ _).trans (feq (fun q => hc36_14 ((lw_eq _ _).mp q))).2) (by decide) (by decide) (XS.iconst X13.here hx rfl (hb hby d11_43) k)) ?_
      show Comes p e below _ (T13.setTop (mkF m 44 #[.val (.ref ob), .val (.ref q)] [(.int (0 : Int32))]))
      exact Comes.retN X13 hx (t := .boolean) Bd.returns (by simp) hlk (hb hby d11_44) e13 ⟨(0 : Int32), rfl, N6, rfl, (by refine ⟨_, P6_0, ?_⟩; first | exact Or.inl ⟨rfl, rfl, by assumption⟩ | exact Or.inr ⟨rfl, Or.inl rfl⟩ | exact Or.inr ⟨rfl, Or.inr (by assumption)⟩)⟩ (by decide) (by decide)
def Q_reS (Z : State) (ob sa : Nat) (c1 : Int64) (h0 : Heap) (n0 : Nat) (v_ : Option Value) (h : Heap) (L_ : List Loc) : Prop := (v_ = some (.int (1 : Int32))) ∧ (Fr n0 L_) ∧ (h = h0)
set_option maxRecDepth 65536 in
set_option maxHeartbeats 40000000 in
theorem reS (l : Launch) (Z : State) (a0 : Array Value) (hw : ∀ d ∈ tables_1, d.before a0 Z = true) (ws : List Jvm.Cond) (ob sa : Nat) (c1 : Int64) (h0 : Heap) (n0 : Nat) (Z0 : n0 ≤ h0.size) (G0 : Exa Z h0 ob "com/example/soft_throttle/softthrottle/usage/RequestCount") (G1 : Fld Z h0 ob "com/example/soft_throttle/softthrottle/usage/RequestCount" "request" "Ljava/lang/String;" (.ref sa)) (G2 : Fld Z h0 ob "com/example/soft_throttle/softthrottle/usage/RequestCount" "count" "J" (.long c1)) (G3 : Exa Z h0 sa "java/lang/String") :
    MetFree l (⟨"com/example/soft_throttle/softthrottle/usage/RequestCount", "equals", "(Ljava/lang/Object;)Z"⟩ : MethodName) (head1 (Jvm.Cond.code (⟨"com/example/soft_throttle/softthrottle/usage/RequestCount", "equals", "(Ljava/lang/Object;)Z"⟩ : MethodName) prog_39_method_4_code 2 (some .boolean) :: ws) ({ frames := 1, cells := 0, slots := 0, locals := 14 } : Room)) (fun a_ U_ => a_ = #[(.ref ob), (.ref ob)] ∧ Z.Warmed39 U_.vm ∧ U_.heap = h0) (fun _ _ _ _ _ => True) (fun _ U_ o_ V_ => ∃ v_ L_, o_ = .returned v_ ∧ Q_reS Z ob sa c1 h0 n0 v_ V_.heap L_ ∧ FrameEnd U_ o_ V_ L_ ({ frames := 1, cells := 0, slots := 0, locals := 14 } : Room).cells ({ frames := 1, cells := 0, slots := 0, locals := 14 } : Room).slots) := by
  refine MetFree.of_bodySF (plainFor_of_name pn_11) hisR ?_
  intro p e s m args below meth c s₁ Bd hml0 hP hK
  obtain ⟨rfl, hZ, hh⟩ := hP
  have hx := Bd.exec
  have hby := Bd.bytes
  have hml : c.maxLocals = 2 := hml0
  have hown : s.vm.findClass "com/example/soft_throttle/softthrottle/usage/RequestCount" = some m.cls := findClass_of_methodNamed Bd.named
  have hnm := (name_of_methodNamed Bd.named Bd.method).1
  have hlk : meth.locks = false := Bd.notSynchronized
  have X0 : Stand p l e ({ frames := 1, cells := 0, slots := 0, locals := 14 } : Room) s m #[(.ref ob), (.ref ob)] below meth c s₁ [] 0 0 := Stand.of_body Bd
  have e0 : s₁.heap = h0 := by rw [← hh, Bd.state]; rfl
  have N0 := Fr.nil n0
  refine Comes.out (Q := Q_reS Z ob sa c1 h0 n0) (kc := ({ frames := 1, cells := 0, slots := 0, locals := 14 } : Room).cells) (ks := ({ frames := 1, cells := 0, slots := 0, locals := 14 } : Room).slots) ?_
  refine Comes.cast (ef_reS m ob ob) ?_
  have lt_ob : ob < h0.size := G0.lt
  have lt_sa : sa < h0.size := G3.lt
  show Comes p e below _ (s₁.setTop (mkF m 0 #[.val (.ref ob), .val (.ref ob)] []))
  refine Comes.st (fun t k => XS.aloadN X0.here hx rfl (hb hby d11_0) rfl rfl k) ?_
  show Comes p e below _ (s₁.setTop (mkF m 1 #[.val (.ref ob), .val (.ref ob)] [(.ref ob)]))
  obtain ⟨T1, X1, e1, st1⟩ := instY X0 hx hZ hown (hw _ (List.mem_of_getElem? (i := 62) rfl)) e0 (Ins.self G0) (g := (mkF m 1 #[.val (.ref ob), .val (.ref ob)] [(.ref ob)])) rfl rfl (hb hby d11_1)
  refine Comes.st st1 ?_
  show Comes p e below _ (T1.setTop (mkF m 4 #[.val (.ref ob), .val (.ref ob)] [(.int (1 : Int32))]))
  have hc4_2 : ¬ ((1 : Int32) = (0 : Int32)) := by decide
  refine Comes.st (fun t k => XS.ifNo X1.here hx rfl (hb hby d11_4) rfl ((if0 _ _).trans (feq hc4_2).1) (XS.aloadN X1.here hx rfl (hb hby d11_7) rfl rfl k)) ?_
  show Comes p e below _ (T1.setTop (mkF m 8 #[.val (.ref ob), .val (.ref ob)] [(.ref ob)]))
  obtain ⟨T3, X3, e3, st3⟩ := getF X1 hx hZ hown (host := "") (Or.inl (hw _ (List.mem_of_getElem? (i := 50) rfl))) Via.refl e1 G1 (g := (mkF m 8 #[.val (.ref ob), .val (.ref ob)] [(.ref ob)])) rfl rfl (hb hby d11_8)
  refine Comes.st st3 ?_
  show Comes p e below _ (T3.setTop (mkF m 11 #[.val (.ref ob), .val (.ref ob)] [(.ref sa)]))
  refine Comes.st (fun t k => XS.aloadN X3.here hx rfl (hb hby d11_11) rfl rfl k) ?_
  show Comes p e below _ (T3.setTop (mkF m 12 #[.val (.ref ob), .val (.ref ob)] [(.ref ob), (.ref sa)]))
  obtain ⟨T4, X4, e4, st4⟩ := castY X3 hx hZ hown (hw _ (List.mem_of_getElem? (i := 62) rfl)) e3 (Ins.self G0) (g := (mkF m 12 #[.val (.ref ob), .val (.ref ob)] [(.ref ob), (.ref sa)])) rfl rfl (hb hby d11_12)
  refine Comes.st st4 ?_
  show Comes p e below _ (T4.setTop (mkF m 15 #[.val (.ref ob), .val (.ref ob)] [(.ref ob), (.ref sa)]))
  obtain ⟨T5, X5, e5, st5⟩ := getF X4 hx hZ hown (host := "") (Or.inl (hw _ (List.mem_of_getElem? (i := 50) rfl))) Via.refl e4 G1 (g := (mkF m 15 #[.val (.ref ob), .val (.ref ob)] [(.ref ob), (.ref sa)])) rfl rfl (hb hby d11_15)
  refine Comes.st st5 ?_
  show Comes p e below _ (T5.setTop (mkF m 18 #[.val (.ref ob), .val (.ref ob)] [(.ref sa), (.ref sa)]))
  obtain ⟨cq6, kq6, q6a, q6b, q6c⟩ := isOf hZ e5 G3
  obtain ⟨_, _, ⟨T6, L6, k6, n6⟩, -, X6, ⟨Lc6, hQ6, l6, y6, z6⟩, st6⟩ := X5.virtualBack hx (y := (⟨"java/lang/String", "equals", "(Ljava/lang/Object;)Z"⟩ : MethodName)) (z := (⟨"java/lang/String", "equals", "(Ljava/lang/Object;)Z"⟩ : MethodName)) hown (mvT hZ (hw _ (List.mem_of_getElem? (i := 64) rfl))) (mvT hZ (hw _ (List.mem_of_getElem? (i := 65) rfl))) (notFace_of_selects (args := #[]) (mvT hZ (hw _ (List.mem_of_getElem? (i := 67) rfl)))) (mvT hZ (hw _ (List.mem_of_getElem? (i := 67) rfl))) (mvT hZ (hw _ (List.mem_of_getElem? (i := 66) rfl))) (by decide) (backOf (W := 0) (seS l Z a0 hw [] sa h0 n0 (by omega)  G3) hZ (hw _ (List.mem_of_getElem? (i := 68) rfl)) (hw _ (List.mem_of_getElem? (i := 6) rfl)) (by decide) (by decide)) q6a q6c (g := (mkF m 18 #[.val (.ref ob), .val (.ref ob)] [(.ref sa), (.ref sa)])) rfl (by rw [hml]; rfl) (Steps.refl _) (argsL := [(.ref sa)]) (rest := []) (lenOf pd_7 rfl) rfl (by show 2 * 0 + _ ≤ _; exact Nat.le_of_eq rfl) (hb hby d11_18) (fun _ _ => ⟨rfl, e5, (by decide : 0 + 0 ≤ _), (by decide : 0 + 0 ≤ _)⟩)
  dsimp only [Pt.U, Pt.locs, Pt.cells, Pt.slots] at X6 l6 y6 z6 st6 hQ6
  subst l6 y6 z6
  obtain ⟨rfl, Nq6, hs6⟩ := hQ6
  have N6 := Fr.app N0 Nq6
  refine Comes.go st6 ?_
  show Comes p e below _ (T6.setTop (mkF m 21 #[.val (.ref ob), .val (.ref ob)] [(.int (1 : Int32))]))
  have hc21_7 : ¬ ((1 : Int32) = (0 : Int32)) := by decide
  refine Comes.st (fun t k => XS.ifNo X6.here hx rfl (hb hby d11_21) rfl ((if0 _ _).trans (feq hc21_7).1) (XS.aloadN X6.here hx rfl (hb hby d11_24) rfl rfl k)) ?_
  show Comes p e below _ (T6.setTop (mkF m 25 #[.val (.ref ob), .val (.ref ob)] [(.ref ob)]))
  obtain ⟨T8, X8, e8, st8⟩ := getF X6 hx hZ hown (host := "") (Or.inl (hw _ (List.mem_of_getElem? (i := 52) rfl))) Via.refl hs6 G2 (g := (mkF m 25 #[.val (.ref ob), .val (.ref ob)] [(.ref ob)])) rfl rfl (hb hby d11_25)
  refine Comes.st st8 ?_
  show Comes p e below _ (T8.setTop (mkF m 28 #[.val (.ref ob), .val (.ref ob)] [(.long c1)]))
  refine Comes.st (fun t k => XS.aloadN X8.here hx rfl (hb hby d11_28) rfl rfl k) ?_
  show Comes p e below _ (T8.setTop (mkF m 29 #[.val (.ref ob), .val (.ref ob)] [(.ref ob), (.long c1)]))
  obtain ⟨T9, X9, e9, st9⟩ := castY X8 hx hZ hown (hw _ (List.mem_of_getElem? (i := 62) rfl)) e8 (Ins.self G0) (g := (mkF m 29 #[.val (.ref ob), .val (.ref ob)] [(.ref ob), (.long c1)])) rfl rfl (hb hby d11_29)
  refine Comes.st st9 ?_
  show Comes p e below _ (T9.setTop (mkF m 32 #[.val (.ref ob), .val (.ref ob)] [(.ref ob), (.long c1)]))
  obtain ⟨T10, X10, e10, st10⟩ := getF X9 hx hZ hown (host := "") (Or.inl (hw _ (List.mem_of_getElem? (i := 52) rfl))) Via.refl e9 G2 (g := (mkF m 32 #[.val (.ref ob), .val (.ref ob)] [(.ref ob), (.long c1)])) rfl rfl (hb hby d11_32)
  refine Comes.st st10 ?_
  show Comes p e below _ (T10.setTop (mkF m 35 #[.val (.ref ob), .val (.ref ob)] [(.long c1), (.long c1)]))
  refine Comes.st (fun t k => XS.lcmp X10.here hx rfl (hb hby d11_35) rfl k) ?_
  show Comes p e below _ (T10.setTop (mkF m 36 #[.val (.ref ob), .val (.ref ob)] [(.int (lcmpW c1 c1))]))
  have hc36_11 : c1 = c1 := by rfl
  refine Comes.st (fun t k => XS.ifNo X10.here hx rfl (hb hby d11_36) rfl ((if0 _ _).trans (teq ((lw_eq _ _).mpr hc36_11)).2) (XS.iconst X10.here hx rfl (hb hby d11_39) (XS.goto X10.here hx rfl (pc0 := 40) (pc' := 44) rfl (hb hby d11_40) (by decide) (by decide) k))) ?_
  show Comes p e below _ (T10.setTop (mkF m 44 #[.val (.ref ob), .val (.ref ob)] [(.int (1 : Int32))]))
  exact Comes.retN X10 hx (t := .boolean) Bd.returns (by simp) hlk (hb hby d11_44) e10 ⟨rfl, N6, rfl⟩ (by decide) (by decide)
def Q_reZ (Z : State) (ob : Nat) (h0 : Heap) (n0 : Nat) (v_ : Option Value) (h : Heap) (L_ : List Loc) : Prop := (v_ = some (.int (0 : Int32))) ∧ (Fr n0 L_) ∧ (h = h0)
set_option maxRecDepth 65536 in
set_option maxHeartbeats 40000000 in
theorem reZ (l : Launch) (Z : State) (a0 : Array Value) (hw : ∀ d ∈ tables_1, d.before a0 Z = true) (ws : List Jvm.Cond) (ob : Nat) (h0 : Heap) (n0 : Nat) (Z0 : n0 ≤ h0.size) (G0 : Exa Z h0 ob "com/example/soft_throttle/softthrottle/usage/RequestCount") :
    MetFree l (⟨"com/example/soft_throttle/softthrottle/usage/RequestCount", "equals", "(Ljava/lang/Object;)Z"⟩ : MethodName) (head1 (Jvm.Cond.code (⟨"com/example/soft_throttle/softthrottle/usage/RequestCount", "equals", "(Ljava/lang/Object;)Z"⟩ : MethodName) prog_39_method_4_code 2 (some .boolean) :: ws) ({ frames := 0, cells := 0, slots := 0, locals := 0 } : Room)) (fun a_ U_ => a_ = #[(.ref ob), .null] ∧ Z.Warmed39 U_.vm ∧ U_.heap = h0) (fun _ _ _ _ _ => True) (fun _ U_ o_ V_ => ∃ v_ L_, o_ = .returned v_ ∧ Q_reZ Z ob h0 n0 v_ V_.heap L_ ∧ FrameEnd U_ o_ V_ L_ ({ frames := 0, cells := 0, slots := 0, locals := 0 } : Room).cells ({ frames := 0, cells := 0, slots := 0, locals := 0 } : Room).slots) := by
  refine MetFree.of_bodySF (plainFor_of_name pn_11) hisR ?_
  intro p e s m args below meth c s₁ Bd hml0 hP hK
  obtain ⟨rfl, hZ, hh⟩ := hP
  have hx := Bd.exec
  have hby := Bd.bytes
  have hml : c.maxLocals = 2 := hml0
  have hown : s.vm.findClass "com/example/soft_throttle/softthrottle/usage/RequestCount" = some m.cls := findClass_of_methodNamed Bd.named
  have hnm := (name_of_methodNamed Bd.named Bd.method).1
  have hlk : meth.locks = false := Bd.notSynchronized
  have X0 : Stand p l e ({ frames := 0, cells := 0, slots := 0, locals := 0 } : Room) s m #[(.ref ob), .null] below meth c s₁ [] 0 0 := Stand.of_body Bd
  have e0 : s₁.heap = h0 := by rw [← hh, Bd.state]; rfl
  have N0 := Fr.nil n0
  refine Comes.out (Q := Q_reZ Z ob h0 n0) (kc := ({ frames := 0, cells := 0, slots := 0, locals := 0 } : Room).cells) (ks := ({ frames := 0, cells := 0, slots := 0, locals := 0 } : Room).slots) ?_
  refine Comes.cast (ef_reZ m ob) ?_
  have lt_ob : ob < h0.size := G0.lt
  show Comes p e below _ (s₁.setTop (mkF m 0 #[.val (.ref ob), .val .null] []))
  refine Comes.st (fun t k => XS.aloadN X0.here hx rfl (hb hby d11_0) rfl rfl k) ?_
  show Comes p e below _ (s₁.setTop (mkF m 1 #[.val (.ref ob), .val .null] [.null]))
  refine Comes.st (fun t k => X0.instanceofNull hx (g := (mkF m 1 #[.val (.ref ob), .val .null] [.null])) rfl rfl (hb hby d11_1) _ k) ?_
  show Comes p e below _ (s₁.setTop (mkF m 4 #[.val (.ref ob), .val .null] [(.int (0 : Int32))]))
  have hc4_1 : (0 : Int32) = (0 : Int32) := by decide
  refine Comes.st (fun t k => XS.ifYes X0.here hx rfl (pc0 := 4) (pc' := 43) rfl (hb hby d11_4) rfl ((if0 _ _).trans (teq hc4_1).1) (by decide) (by decide) (XS.iconst X0.here hx rfl (hb hby d11_43) k)) ?_
  show Comes p e below _ (s₁.setTop (mkF m 44 #[.val (.ref ob), .val .null] [(.int (0 : Int32))]))
  exact Comes.retN X0 hx (t := .boolean) Bd.returns (by simp) hlk (hb hby d11_44) e0 ⟨rfl, N0, rfl⟩ (by decide) (by decide)
def Q_reT (Z : State) (ob q : Nat) (h0 : Heap) (n0 : Nat) (v_ : Option Value) (h : Heap) (L_ : List Loc) : Prop := (v_ = some (.int (0 : Int32))) ∧ (Fr n0 L_) ∧ (h = h0)
set_option maxRecDepth 65536 in
set_option maxHeartbeats 40000000 in
theorem reT (l : Launch) (Z : State) (a0 : Array Value) (hw : ∀ d ∈ tables_1, d.before a0 Z = true) (ws : List Jvm.Cond) (ob q : Nat) (h0 : Heap) (n0 : Nat) (Z0 : n0 ≤ h0.size) (G0 : Exa Z h0 ob "com/example/soft_throttle/softthrottle/usage/RequestCount") (G1 : Exa Z h0 q "java/lang/String") :
    MetFree l (⟨"com/example/soft_throttle/softthrottle/usage/RequestCount", "equals", "(Ljava/lang/Object;)Z"⟩ : MethodName) (head1 (Jvm.Cond.code (⟨"com/example/soft_throttle/softthrottle/usage/RequestCount", "equals", "(Ljava/lang/Object;)Z"⟩ : MethodName) prog_39_method_4_code 2 (some .boolean) :: ws) ({ frames := 0, cells := 0, slots := 0, locals := 0 } : Room)) (fun a_ U_ => a_ = #[(.ref ob), (.ref q)] ∧ Z.Warmed39 U_.vm ∧ U_.heap = h0) (fun _ _ _ _ _ => True) (fun _ U_ o_ V_ => ∃ v_ L_, o_ = .returned v_ ∧ Q_reT Z ob q h0 n0 v_ V_.heap L_ ∧ FrameEnd U_ o_ V_ L_ ({ frames := 0, cells := 0, slots := 0, locals := 0 } : Room).cells ({ frames := 0, cells := 0, slots := 0, locals := 0 } : Room).slots) := by
  refine MetFree.of_bodySF (plainFor_of_name pn_11) hisR ?_
  intro p e s m args below meth c s₁ Bd hml0 hP hK
  obtain ⟨rfl, hZ, hh⟩ := hP
  have hx := Bd.exec
  have hby := Bd.bytes
  have hml : c.maxLocals = 2 := hml0
  have hown : s.vm.findClass "com/example/soft_throttle/softthrottle/usage/RequestCount" = some m.cls := findClass_of_methodNamed Bd.named
  have hnm := (name_of_methodNamed Bd.named Bd.method).1
  have hlk : meth.locks = false := Bd.notSynchronized
  have X0 : Stand p l e ({ frames := 0, cells := 0, slots := 0, locals := 0 } : Room) s m #[(.ref ob), (.ref q)] below meth c s₁ [] 0 0 := Stand.of_body Bd
  have e0 : s₁.heap = h0 := by rw [← hh, Bd.state]; rfl
  have N0 := Fr.nil n0
  refine Comes.out (Q := Q_reT Z ob q h0 n0) (kc := ({ frames := 0, cells := 0, slots := 0, locals := 0 } : Room).cells) (ks := ({ frames := 0, cells := 0, slots := 0, locals := 0 } : Room).slots) ?_
  refine Comes.cast (ef_reT m ob q) ?_
  have lt_ob : ob < h0.size := G0.lt
  have lt_q : q < h0.size := G1.lt
  show Comes p e below _ (s₁.setTop (mkF m 0 #[.val (.ref ob), .val (.ref q)] []))
  refine Comes.st (fun t k => XS.aloadN X0.here hx rfl (hb hby d11_0) rfl rfl k) ?_
  show Comes p e below _ (s₁.setTop (mkF m 1 #[.val (.ref ob), .val (.ref q)] [(.ref q)]))
  obtain ⟨T1, X1, e1, st1⟩ := instNo X0 hx hZ hown (hw _ (List.mem_of_getElem? (i := 62) rfl)) e0 G1 (own_nosub (hw _ (List.mem_of_getElem? (i := 74) rfl)) (hw _ (List.mem_of_getElem? (i := 75) rfl)) (hw _ (List.mem_of_getElem? (i := 38) rfl)) (by decide) (by decide)) (g := (mkF m 1 #[.val (.ref ob), .val (.ref q)] [(.ref q)])) rfl rfl (hb hby d11_1)
  refine Comes.st st1 ?_
  show Comes p e below _ (T1.setTop (mkF m 4 #[.val (.ref ob), .val (.ref q)] [(.int (0 : Int32))]))
  have hc4_2 : (0 : Int32) = (0 : Int32) := by decide
  refine Comes.st (fun t k => XS.ifYes X1.here hx rfl (pc0 := 4) (pc' := 43) rfl (hb hby d11_4) rfl ((if0 _ _).trans (teq hc4_2).1) (by decide) (by decide) (XS.iconst X1.here hx rfl (hb hby d11_43) k)) ?_
  show Comes p e below _ (T1.setTop (mkF m 44 #[.val (.ref ob), .val (.ref q)] [(.int (0 : Int32))]))
  exact Comes.retN X1 hx (t := .boolean) Bd.returns (by simp) hlk (hb hby d11_44) e1 ⟨rfl, N0, rfl⟩ (by decide) (by decide)
def Q_rm10 (Z : State) (n ya yb yc mm za zb zc : Int32) (h0 : Heap) (n0 : Nat) (v_ : Option Value) (h : Heap) (L_ : List Loc) : Prop := ∃ (r : Int32), (v_ = some (.int r)) ∧ (Fr n0 L_) ∧ (h = h0) ∧ (own_eqs n ya yb yc mm za zb zc r)
set_option maxRecDepth 65536 in
set_option maxHeartbeats 40000000 in
theorem rm10 (l : Launch) (Z : State) (a0 : Array Value) (hw : ∀ d ∈ tables_1, d.before a0 Z = true) (ws : List Jvm.Cond) (n ya yb yc mm za zb zc : Int32) (h0 : Heap) (n0 : Nat) (Z0 : n0 ≤ h0.size) :
    MetFree l (⟨"com/example/soft_throttle/softthrottle/usage/RequestCountEqualsPinLaw", "sameText", "(ICCCICCC)Z"⟩ : MethodName) (head1 (Jvm.Cond.code (⟨"com/example/soft_throttle/softthrottle/usage/RequestCountEqualsPinLaw", "sameText", "(ICCCICCC)Z"⟩ : MethodName) method_3_code 8 (some .boolean) :: ws) ({ frames := 0, cells := 0, slots := 0, locals := 0 } : Room)) (fun a_ U_ => a_ = #[(.int n), (.int ya), (.int yb), (.int yc), (.int mm), (.int za), (.int zb), (.int zc)] ∧ Z.Warmed39 U_.vm ∧ U_.heap = h0) (fun _ _ _ _ _ => True) (fun _ U_ o_ V_ => ∃ v_ L_, o_ = .returned v_ ∧ Q_rm10 Z n ya yb yc mm za zb zc h0 n0 v_ V_.heap L_ ∧ FrameEnd U_ o_ V_ L_ ({ frames := 0, cells := 0, slots := 0, locals := 0 } : Room).cells ({ frames := 0, cells := 0, slots := 0, locals := 0 } : Room).slots) := by
  refine MetFree.of_bodySF (plainFor_of_name pn_10) hisR ?_
  intro p e s m args below meth c s₁ Bd hml0 hP hK
  obtain ⟨rfl, hZ, hh⟩ := hP
  have hx := Bd.exec
  have hby := Bd.bytes
  have hml : c.maxLocals = 8 := hml0
  have hown : s.vm.findClass "com/example/soft_throttle/softthrottle/usage/RequestCountEqualsPinLaw" = some m.cls := findClass_of_methodNamed Bd.named
  have hnm := (name_of_methodNamed Bd.named Bd.method).1
  have hlk : meth.locks = false := Bd.notSynchronized
  have X0 : Stand p l e ({ frames := 0, cells := 0, slots := 0, locals := 0 } : Room) s m #[(.int n), (.int ya), (.int yb), (.int yc), (.int mm), (.int za), (.int zb), (.int zc)] below meth c s₁ [] 0 0 := Stand.of_body Bd
  have e0 : s₁.heap = h0 := by rw [← hh, Bd.state]; rfl
  have N0 := Fr.nil n0
  refine Comes.out (Q := Q_rm10 Z n ya yb yc mm za zb zc h0 n0) (kc := ({ frames := 0, cells := 0, slots := 0, locals := 0 } : Room).cells) (ks := ({ frames := 0, cells := 0, slots := 0, locals := 0 } : Room).slots) ?_
  refine Comes.cast (ef_rm10 m n ya yb yc mm za zb zc) ?_
  show Comes p e below _ (s₁.setTop (mkF m 0 #[.val (.int n), .val (.int ya), .val (.int yb), .val (.int yc), .val (.int mm), .val (.int za), .val (.int zb), .val (.int zc)] []))
  refine Comes.st (fun t k => XS.iloadN X0.here hx rfl (hb hby d10_0) rfl (XS.iload X0.here hx rfl (hb hby d10_1) rfl k)) ?_
  show Comes p e below _ (s₁.setTop (mkF m 3 #[.val (.int n), .val (.int ya), .val (.int yb), .val (.int yc), .val (.int mm), .val (.int za), .val (.int zb), .val (.int zc)] [(.int mm), (.int n)]))
  by_cases hc3_1 : n = mm
  · refine Comes.st (fun t k => XS.icmpYes X0.here hx rfl (pc0 := 3) (pc' := 8) rfl (hb hby d10_3) rfl (teq hc3_1).1 (by decide) (by decide) (XS.iloadN X0.here hx rfl (hb hby d10_8) rfl (XS.iconst X0.here hx rfl (hb hby d10_9) k))) ?_
    show Comes p e below _ (s₁.setTop (mkF m 10 #[.val (.int n), .val (.int ya), .val (.int yb), .val (.int yc), .val (.int mm), .val (.int za), .val (.int zb), .val (.int zc)] [(.int (1 : Int32)), (.int n)]))
    by_cases hc10_2 : n < (1 : Int32)
    · refine Comes.st (fun t k => XS.icmpYes X0.here hx rfl (pc0 := 10) (pc' := 21) rfl (hb hby d10_10) rfl (tlt hc10_2).1 (by decide) (by decide) (XS.iloadN X0.here hx rfl (hb hby d10_21) rfl (XS.iconst X0.here hx rfl (hb hby d10_22) k))) ?_
      show Comes p e below _ (s₁.setTop (mkF m 23 #[.val (.int n), .val (.int ya), .val (.int yb), .val (.int yc), .val (.int mm), .val (.int za), .val (.int zb), .val (.int zc)] [(.int (2 : Int32)), (.int n)]))
      by_cases hc23_3 : n < (2 : Int32)
      · refine Comes.st (fun t k => XS.icmpYes X0.here hx rfl (pc0 := 23) (pc' := 34) rfl (hb hby d10_23) rfl (tlt hc23_3).1 (by decide) (by decide) (XS.iloadN X0.here hx rfl (hb hby d10_34) rfl (XS.iconst X0.here hx rfl (hb hby d10_35) k))) ?_
        show Comes p e below _ (s₁.setTop (mkF m 36 #[.val (.int n), .val (.int ya), .val (.int yb), .val (.int yc), .val (.int mm), .val (.int za), .val (.int zb), .val (.int zc)] [(.int (3 : Int32)), (.int n)]))
        by_cases hc36_4 : n < (3 : Int32)
        · refine Comes.st (fun t k => XS.icmpYes X0.here hx rfl (pc0 := 36) (pc' := 47) rfl (hb hby d10_36) rfl (tlt hc36_4).1 (by decide) (by decide) (XS.iconst X0.here hx rfl (hb hby d10_47) k)) ?_
          show Comes p e below _ (s₁.setTop (mkF m 48 #[.val (.int n), .val (.int ya), .val (.int yb), .val (.int yc), .val (.int mm), .val (.int za), .val (.int zb), .val (.int zc)] [(.int (1 : Int32))]))
          exact Comes.retN X0 hx (t := .boolean) Bd.returns (by simp) hlk (hb hby d10_48) e0 ⟨(1 : Int32), rfl, N0, rfl, (by unfold own_eqs; first | (refine Or.inl ⟨rfl, by assumption, ?_, ?_, ?_⟩ <;> first | exact Or.inl (by assumption) | exact Or.inr (by assumption)) | (refine Or.inr ⟨rfl, ?_⟩; first | exact Or.inl (by assumption) | exact Or.inr (Or.inl ⟨by assumption, by assumption⟩) | exact Or.inr (Or.inr (Or.inl ⟨by assumption, by assumption⟩)) | exact Or.inr (Or.inr (Or.inr ⟨by assumption, by assumption⟩))))⟩ (by decide) (by decide)
        · refine Comes.st (fun t k => XS.icmpNo X0.here hx rfl (hb hby d10_36) rfl (flt hc36_4).1 (XS.iloadN X0.here hx rfl (hb hby d10_39) rfl (XS.iload X0.here hx rfl (hb hby d10_40) rfl k))) ?_
          show Comes p e below _ (s₁.setTop (mkF m 42 #[.val (.int n), .val (.int ya), .val (.int yb), .val (.int yc), .val (.int mm), .val (.int za), .val (.int zb), .val (.int zc)] [(.int zc), (.int yc)]))
          by_cases hc42_5 : yc = zc
          · refine Comes.st (fun t k => XS.icmpYes X0.here hx rfl (pc0 := 42) (pc' := 47) rfl (hb hby d10_42) rfl (teq hc42_5).1 (by decide) (by decide) (XS.iconst X0.here hx rfl (hb hby d10_47) k)) ?_
            show Comes p e below _ (s₁.setTop (mkF m 48 #[.val (.int n), .val (.int ya), .val (.int yb), .val (.int yc), .val (.int mm), .val (.int za), .val (.int zb), .val (.int zc)] [(.int (1 : Int32))]))
            exact Comes.retN X0 hx (t := .boolean) Bd.returns (by simp) hlk (hb hby d10_48) e0 ⟨(1 : Int32), rfl, N0, rfl, (by unfold own_eqs; first | (refine Or.inl ⟨rfl, by assumption, ?_, ?_, ?_⟩ <;> first | exact Or.inl (by assumption) | exact Or.inr (by assumption)) | (refine Or.inr ⟨rfl, ?_⟩; first | exact Or.inl (by assumption) | exact Or.inr (Or.inl ⟨by assumption, by assumption⟩) | exact Or.inr (Or.inr (Or.inl ⟨by assumption, by assumption⟩)) | exact Or.inr (Or.inr (Or.inr ⟨by assumption, by assumption⟩))))⟩ (by decide) (by decide)
          · refine Comes.st (fun t k => XS.icmpNo X0.here hx rfl (hb hby d10_42) rfl (feq hc42_5).1 (XS.iconst X0.here hx rfl (hb hby d10_45) k)) ?_
            show Comes p e below _ (s₁.setTop (mkF m 46 #[.val (.int n), .val (.int ya), .val (.int yb), .val (.int yc), .val (.int mm), .val (.int za), .val (.int zb), .val (.int zc)] [(.int (0 : Int32))]))
            exact Comes.retN X0 hx (t := .boolean) Bd.returns (by simp) hlk (hb hby d10_46) e0 ⟨(0 : Int32), rfl, N0, rfl, (by unfold own_eqs; first | (refine Or.inl ⟨rfl, by assumption, ?_, ?_, ?_⟩ <;> first | exact Or.inl (by assumption) | exact Or.inr (by assumption)) | (refine Or.inr ⟨rfl, ?_⟩; first | exact Or.inl (by assumption) | exact Or.inr (Or.inl ⟨by assumption, by assumption⟩) | exact Or.inr (Or.inr (Or.inl ⟨by assumption, by assumption⟩)) | exact Or.inr (Or.inr (Or.inr ⟨by assumption, by assumption⟩))))⟩ (by decide) (by decide)
      · refine Comes.st (fun t k => XS.icmpNo X0.here hx rfl (hb hby d10_23) rfl (flt hc23_3).1 (XS.iloadN X0.here hx rfl (hb hby d10_26) rfl (XS.iload X0.here hx rfl (hb hby d10_27) rfl k))) ?_
        show Comes p e below _ (s₁.setTop (mkF m 29 #[.val (.int n), .val (.int ya), .val (.int yb), .val (.int yc), .val (.int mm), .val (.int za), .val (.int zb), .val (.int zc)] [(.int zb), (.int yb)]))
        by_cases hc29_6 : yb = zb
        · refine Comes.st (fun t k => XS.icmpYes X0.here hx rfl (pc0 := 29) (pc' := 34) rfl (hb hby d10_29) rfl (teq hc29_6).1 (by decide) (by decide) (XS.iloadN X0.here hx rfl (hb hby d10_34) rfl (XS.iconst X0.here hx rfl (hb hby d10_35) k))) ?_
          show Comes p e below _ (s₁.setTop (mkF m 36 #[.val (.int n), .val (.int ya), .val (.int yb), .val (.int yc), .val (.int mm), .val (.int za), .val (.int zb), .val (.int zc)] [(.int (3 : Int32)), (.int n)]))
          by_cases hc36_7 : n < (3 : Int32)
          · refine Comes.st (fun t k => XS.icmpYes X0.here hx rfl (pc0 := 36) (pc' := 47) rfl (hb hby d10_36) rfl (tlt hc36_7).1 (by decide) (by decide) (XS.iconst X0.here hx rfl (hb hby d10_47) k)) ?_
            show Comes p e below _ (s₁.setTop (mkF m 48 #[.val (.int n), .val (.int ya), .val (.int yb), .val (.int yc), .val (.int mm), .val (.int za), .val (.int zb), .val (.int zc)] [(.int (1 : Int32))]))
            exact Comes.retN X0 hx (t := .boolean) Bd.returns (by simp) hlk (hb hby d10_48) e0 ⟨(1 : Int32), rfl, N0, rfl, (by unfold own_eqs; first | (refine Or.inl ⟨rfl, by assumption, ?_, ?_, ?_⟩ <;> first | exact Or.inl (by assumption) | exact Or.inr (by assumption)) | (refine Or.inr ⟨rfl, ?_⟩; first | exact Or.inl (by assumption) | exact Or.inr (Or.inl ⟨by assumption, by assumption⟩) | exact Or.inr (Or.inr (Or.inl ⟨by assumption, by assumption⟩)) | exact Or.inr (Or.inr (Or.inr ⟨by assumption, by assumption⟩))))⟩ (by decide) (by decide)
          · refine Comes.st (fun t k => XS.icmpNo X0.here hx rfl (hb hby d10_36) rfl (flt hc36_7).1 (XS.iloadN X0.here hx rfl (hb hby d10_39) rfl (XS.iload X0.here hx rfl (hb hby d10_40) rfl k))) ?_
            show Comes p e below _ (s₁.setTop (mkF m 42 #[.val (.int n), .val (.int ya), .val (.int yb), .val (.int yc), .val (.int mm), .val (.int za), .val (.int zb), .val (.int zc)] [(.int zc), (.int yc)]))
            by_cases hc42_8 : yc = zc
            · refine Comes.st (fun t k => XS.icmpYes X0.here hx rfl (pc0 := 42) (pc' := 47) rfl (hb hby d10_42) rfl (teq hc42_8).1 (by decide) (by decide) (XS.iconst X0.here hx rfl (hb hby d10_47) k)) ?_
              show Comes p e below _ (s₁.setTop (mkF m 48 #[.val (.int n), .val (.int ya), .val (.int yb), .val (.int yc), .val (.int mm), .val (.int za), .val (.int zb), .val (.int zc)] [(.int (1 : Int32))]))
              exact Comes.retN X0 hx (t := .boolean) Bd.returns (by simp) hlk (hb hby d10_48) e0 ⟨(1 : Int32), rfl, N0, rfl, (by unfold own_eqs; first | (refine Or.inl ⟨rfl, by assumption, ?_, ?_, ?_⟩ <;> first | exact Or.inl (by assumption) | exact Or.inr (by assumption)) | (refine Or.inr ⟨rfl, ?_⟩; first | exact Or.inl (by assumption) | exact Or.inr (Or.inl ⟨by assumption, by assumption⟩) | exact Or.inr (Or.inr (Or.inl ⟨by assumption, by assumption⟩)) | exact Or.inr (Or.inr (Or.inr ⟨by assumption, by assumption⟩))))⟩ (by decide) (by decide)
            · refine Comes.st (fun t k => XS.icmpNo X0.here hx rfl (hb hby d10_42) rfl (feq hc42_8).1 (XS.iconst X0.here hx rfl (hb hby d10_45) k)) ?_
              show Comes p e below _ (s₁.setTop (mkF m 46 #[.val (.int n), .val (.int ya), .val (.int yb), .val (.int yc), .val (.int mm), .val (.int za), .val (.int zb), .val (.int zc)] [(.int (0 : Int32))]))
              exact Comes.retN X0 hx (t := .boolean) Bd.returns (by simp) hlk (hb hby d10_46) e0 ⟨(0 : Int32), rfl, N0, rfl, (by unfold own_eqs; first | (refine Or.inl ⟨rfl, by assumption, ?_, ?_, ?_⟩ <;> first | exact Or.inl (by assumption) | exact Or.inr (by assumption)) | (refine Or.inr ⟨rfl, ?_⟩; first | exact Or.inl (by assumption) | exact Or.inr (Or.inl ⟨by assumption, by assumption⟩) | exact Or.inr (Or.inr (Or.inl ⟨by assumption, by assumption⟩)) | exact Or.inr (Or.inr (Or.inr ⟨by assumption, by assumption⟩))))⟩ (by decide) (by decide)
        · refine Comes.st (fun t k => XS.icmpNo X0.here hx rfl (hb hby d10_29) rfl (feq hc29_6).1 (XS.iconst X0.here hx rfl (hb hby d10_32) k)) ?_
          show Comes p e below _ (s₁.setTop (mkF m 33 #[.val (.int n), .val (.int ya), .val (.int yb), .val (.int yc), .val (.int mm), .val (.int za), .val (.int zb), .val (.int zc)] [(.int (0 : Int32))]))
          exact Comes.retN X0 hx (t := .boolean) Bd.returns (by simp) hlk (hb hby d10_33) e0 ⟨(0 : Int32), rfl, N0, rfl, (by unfold own_eqs; first | (refine Or.inl ⟨rfl, by assumption, ?_, ?_, ?_⟩ <;> first | exact Or.inl (by assumption) | exact Or.inr (by assumption)) | (refine Or.inr ⟨rfl, ?_⟩; first | exact Or.inl (by assumption) | exact Or.inr (Or.inl ⟨by assumption, by assumption⟩) | exact Or.inr (Or.inr (Or.inl ⟨by assumption, by assumption⟩)) | exact Or.inr (Or.inr (Or.inr ⟨by assumption, by assumption⟩))))⟩ (by decide) (by decide)
    · refine Comes.st (fun t k => XS.icmpNo X0.here hx rfl (hb hby d10_10) rfl (flt hc10_2).1 (XS.iloadN X0.here hx rfl (hb hby d10_13) rfl (XS.iload X0.here hx rfl (hb hby d10_14) rfl k))) ?_
      show Comes p e below _ (s₁.setTop (mkF m 16 #[.val (.int n), .val (.int ya), .val (.int yb), .val (.int yc), .val (.int mm), .val (.int za), .val (.int zb), .val (.int zc)] [(.int za), (.int ya)]))
      by_cases hc16_9 : ya = za
      · refine Comes.st (fun t k => XS.icmpYes X0.here hx rfl (pc0 := 16) (pc' := 21) rfl (hb hby d10_16) rfl (teq hc16_9).1 (by decide) (by decide) (XS.iloadN X0.here hx rfl (hb hby d10_21) rfl (XS.iconst X0.here hx rfl (hb hby d10_22) k))) ?_
        show Comes p e below _ (s₁.setTop (mkF m 23 #[.val (.int n), .val (.int ya), .val (.int yb), .val (.int yc), .val (.int mm), .val (.int za), .val (.int zb), .val (.int zc)] [(.int (2 : Int32)), (.int n)]))
        by_cases hc23_10 : n < (2 : Int32)
        · refine Comes.st (fun t k => XS.icmpYes X0.here hx rfl (pc0 := 23) (pc' := 34) rfl (hb hby d10_23) rfl (tlt hc23_10).1 (by decide) (by decide) (XS.iloadN X0.here hx rfl (hb hby d10_34) rfl (XS.iconst X0.here hx rfl (hb hby d10_35) k))) ?_
          show Comes p e below _ (s₁.setTop (mkF m 36 #[.val (.int n), .val (.int ya), .val (.int yb), .val (.int yc), .val (.int mm), .val (.int za), .val (.int zb), .val (.int zc)] [(.int (3 : Int32)), (.int n)]))
          by_cases hc36_11 : n < (3 : Int32)
          · refine Comes.st (fun t k => XS.icmpYes X0.here hx rfl (pc0 := 36) (pc' := 47) rfl (hb hby d10_36) rfl (tlt hc36_11).1 (by decide) (by decide) (XS.iconst X0.here hx rfl (hb hby d10_47) k)) ?_
            show Comes p e below _ (s₁.setTop (mkF m 48 #[.val (.int n), .val (.int ya), .val (.int yb), .val (.int yc), .val (.int mm), .val (.int za), .val (.int zb), .val (.int zc)] [(.int (1 : Int32))]))
            exact Comes.retN X0 hx (t := .boolean) Bd.returns (by simp) hlk (hb hby d10_48) e0 ⟨(1 : Int32), rfl, N0, rfl, (by unfold own_eqs; first | (refine Or.inl ⟨rfl, by assumption, ?_, ?_, ?_⟩ <;> first | exact Or.inl (by assumption) | exact Or.inr (by assumption)) | (refine Or.inr ⟨rfl, ?_⟩; first | exact Or.inl (by assumption) | exact Or.inr (Or.inl ⟨by assumption, by assumption⟩) | exact Or.inr (Or.inr (Or.inl ⟨by assumption, by assumption⟩)) | exact Or.inr (Or.inr (Or.inr ⟨by assumption, by assumption⟩))))⟩ (by decide) (by decide)
          · refine Comes.st (fun t k => XS.icmpNo X0.here hx rfl (hb hby d10_36) rfl (flt hc36_11).1 (XS.iloadN X0.here hx rfl (hb hby d10_39) rfl (XS.iload X0.here hx rfl (hb hby d10_40) rfl k))) ?_
            show Comes p e below _ (s₁.setTop (mkF m 42 #[.val (.int n), .val (.int ya), .val (.int yb), .val (.int yc), .val (.int mm), .val (.int za), .val (.int zb), .val (.int zc)] [(.int zc), (.int yc)]))
            by_cases hc42_12 : yc = zc
            · refine Comes.st (fun t k => XS.icmpYes X0.here hx rfl (pc0 := 42) (pc' := 47) rfl (hb hby d10_42) rfl (teq hc42_12).1 (by decide) (by decide) (XS.iconst X0.here hx rfl (hb hby d10_47) k)) ?_
              show Comes p e below _ (s₁.setTop (mkF m 48 #[.val (.int n), .val (.int ya), .val (.int yb), .val (.int yc), .val (.int mm), .val (.int za), .val (.int zb), .val (.int zc)] [(.int (1 : Int32))]))
              exact Comes.retN X0 hx (t := .boolean) Bd.returns (by simp) hlk (hb hby d10_48) e0 ⟨(1 : Int32), rfl, N0, rfl, (by unfold own_eqs; first | (refine Or.inl ⟨rfl, by assumption, ?_, ?_, ?_⟩ <;> first | exact Or.inl (by assumption) | exact Or.inr (by assumption)) | (refine Or.inr ⟨rfl, ?_⟩; first | exact Or.inl (by assumption) | exact Or.inr (Or.inl ⟨by assumption, by assumption⟩) | exact Or.inr (Or.inr (Or.inl ⟨by assumption, by assumption⟩)) | exact Or.inr (Or.inr (Or.inr ⟨by assumption, by assumption⟩))))⟩ (by decide) (by decide)
            · refine Comes.st (fun t k => XS.icmpNo X0.here hx rfl (hb hby d10_42) rfl (feq hc42_12).1 (XS.iconst X0.here hx rfl (hb hby d10_45) k)) ?_
              show Comes p e below _ (s₁.setTop (mkF m 46 #[.val (.int n), .val (.int ya), .val (.int yb), .val (.int yc), .val (.int mm), .val (.int za), .val (.int zb), .val (.int zc)] [(.int (0 : Int32))]))
              exact Comes.retN X0 hx (t := .boolean) Bd.returns (by simp) hlk (hb hby d10_46) e0 ⟨(0 : Int32), rfl, N0, rfl, (by unfold own_eqs; first | (refine Or.inl ⟨rfl, by assumption, ?_, ?_, ?_⟩ <;> first | exact Or.inl (by assumption) | exact Or.inr (by assumption)) | (refine Or.inr ⟨rfl, ?_⟩; first | exact Or.inl (by assumption) | exact Or.inr (Or.inl ⟨by assumption, by assumption⟩) | exact Or.inr (Or.inr (Or.inl ⟨by assumption, by assumption⟩)) | exact Or.inr (Or.inr (Or.inr ⟨by assumption, by assumption⟩))))⟩ (by decide) (by decide)
        · refine Comes.st (fun t k => XS.icmpNo X0.here hx rfl (hb hby d10_23) rfl (flt hc23_10).1 (XS.iloadN X0.here hx rfl (hb hby d10_26) rfl (XS.iload X0.here hx rfl (hb hby d10_27) rfl k))) ?_
          show Comes p e below _ (s₁.setTop (mkF m 29 #[.val (.int n), .val (.int ya), .val (.int yb), .val (.int yc), .val (.int mm), .val (.int za), .val (.int zb), .val (.int zc)] [(.int zb), (.int yb)]))
          by_cases hc29_13 : yb = zb
          · refine Comes.st (fun t k => XS.icmpYes X0.here hx rfl (pc0 := 29) (pc' := 34) rfl (hb hby d10_29) rfl (teq hc29_13).1 (by decide) (by decide) (XS.iloadN X0.here hx rfl (hb hby d10_34) rfl (XS.iconst X0.here hx rfl (hb hby d10_35) k))) ?_
            show Comes p e below _ (s₁.setTop (mkF m 36 #[.val (.int n), .val (.int ya), .val (.int yb), .val (.int yc), .val (.int mm), .val (.int za), .val (.int zb), .val (.int zc)] [(.int (3 : Int32)), (.int n)]))
            by_cases hc36_14 : n < (3 : Int32)
            · refine Comes.st (fun t k => XS.icmpYes X0.here hx rfl (pc0 := 36) (pc' := 47) rfl (hb hby d10_36) rfl (tlt hc36_14).1 (by decide) (by decide) (XS.iconst X0.here hx rfl (hb hby d10_47) k)) ?_
              show Comes p e below _ (s₁.setTop (mkF m 48 #[.val (.int n), .val (.int ya), .val (.int yb), .val (.int yc), .val (.int mm), .val (.int za), .val (.int zb), .val (.int zc)] [(.int (1 : Int32))]))
              exact Comes.retN X0 hx (t := .boolean) Bd.returns (by simp) hlk (hb hby d10_48) e0 ⟨(1 : Int32), rfl, N0, rfl, (by unfold own_eqs; first | (refine Or.inl ⟨rfl, by assumption, ?_, ?_, ?_⟩ <;> first | exact Or.inl (by assumption) | exact Or.inr (by assumption)) | (refine Or.inr ⟨rfl, ?_⟩; first | exact Or.inl (by assumption) | exact Or.inr (Or.inl ⟨by assumption, by assumption⟩) | exact Or.inr (Or.inr (Or.inl ⟨by assumption, by assumption⟩)) | exact Or.inr (Or.inr (Or.inr ⟨by assumption, by assumption⟩))))⟩ (by decide) (by decide)
            · refine Comes.st (fun t k => XS.icmpNo X0.here hx rfl (hb hby d10_36) rfl (flt hc36_14).1 (XS.iloadN X0.here hx rfl (hb hby d10_39) rfl (XS.iload X0.here hx rfl (hb hby d10_40) rfl k))) ?_
              show Comes p e below _ (s₁.setTop (mkF m 42 #[.val (.int n), .val (.int ya), .val (.int yb), .val (.int yc), .val (.int mm), .val (.int za), .val (.int zb), .val (.int zc)] [(.int zc), (.int yc)]))
              by_cases hc42_15 : yc = zc
              · refine Comes.st (fun t k => XS.icmpYes X0.here hx rfl (pc0 := 42) (pc' := 47) rfl (hb hby d10_42) rfl (teq hc42_15).1 (by decide) (by decide) (XS.iconst X0.here hx rfl (hb hby d10_47) k)) ?_
                show Comes p e below _ (s₁.setTop (mkF m 48 #[.val (.int n), .val (.int ya), .val (.int yb), .val (.int yc), .val (.int mm), .val (.int za), .val (.int zb), .val (.int zc)] [(.int (1 : Int32))]))
                exact Comes.retN X0 hx (t := .boolean) Bd.returns (by simp) hlk (hb hby d10_48) e0 ⟨(1 : Int32), rfl, N0, rfl, (by unfold own_eqs; first | (refine Or.inl ⟨rfl, by assumption, ?_, ?_, ?_⟩ <;> first | exact Or.inl (by assumption) | exact Or.inr (by assumption)) | (refine Or.inr ⟨rfl, ?_⟩; first | exact Or.inl (by assumption) | exact Or.inr (Or.inl ⟨by assumption, by assumption⟩) | exact Or.inr (Or.inr (Or.inl ⟨by assumption, by assumption⟩)) | exact Or.inr (Or.inr (Or.inr ⟨by assumption, by assumption⟩))))⟩ (by decide) (by decide)
              · refine Comes.st (fun t k => XS.icmpNo X0.here hx rfl (hb hby d10_42) rfl (feq hc42_15).1 (XS.iconst X0.here hx rfl (hb hby d10_45) k)) ?_
                show Comes p e below _ (s₁.setTop (mkF m 46 #[.val (.int n), .val (.int ya), .val (.int yb), .val (.int yc), .val (.int mm), .val (.int za), .val (.int zb), .val (.int zc)] [(.int (0 : Int32))]))
                exact Comes.retN X0 hx (t := .boolean) Bd.returns (by simp) hlk (hb hby d10_46) e0 ⟨(0 : Int32), rfl, N0, rfl, (by unfold own_eqs; first | (refine Or.inl ⟨rfl, by assumption, ?_, ?_, ?_⟩ <;> first | exact Or.inl (by assumption) | exact Or.inr (by assumption)) | (refine Or.inr ⟨rfl, ?_⟩; first | exact Or.inl (by assumption) | exact Or.inr (Or.inl ⟨by assumption, by assumption⟩) | exact Or.inr (Or.inr (Or.inl ⟨by assumption, by assumption⟩)) | exact Or.inr (Or.inr (Or.inr ⟨by assumption, by assumption⟩))))⟩ (by decide) (by decide)
          · refine Comes.st (fun t k => XS.icmpNo X0.here hx rfl (hb hby d10_29) rfl (feq hc29_13).1 (XS.iconst X0.here hx rfl (hb hby d10_32) k)) ?_
            show Comes p e below _ (s₁.setTop (mkF m 33 #[.val (.int n), .val (.int ya), .val (.int yb), .val (.int yc), .val (.int mm), .val (.int za), .val (.int zb), .val (.int zc)] [(.int (0 : Int32))]))
            exact Comes.retN X0 hx (t := .boolean) Bd.returns (by simp) hlk (hb hby d10_33) e0 ⟨(0 : Int32), rfl, N0, rfl, (by unfold own_eqs; first | (refine Or.inl ⟨rfl, by assumption, ?_, ?_, ?_⟩ <;> first | exact Or.inl (by assumption) | exact Or.inr (by assumption)) | (refine Or.inr ⟨rfl, ?_⟩; first | exact Or.inl (by assumption) | exact Or.inr (Or.inl ⟨by assumption, by assumption⟩) | exact Or.inr (Or.inr (Or.inl ⟨by assumption, by assumption⟩)) | exact Or.inr (Or.inr (Or.inr ⟨by assumption, by assumption⟩))))⟩ (by decide) (by decide)
      · refine Comes.st (fun t k => XS.icmpNo X0.here hx rfl (hb hby d10_16) rfl (feq hc16_9).1 (XS.iconst X0.here hx rfl (hb hby d10_19) k)) ?_
        show Comes p e below _ (s₁.setTop (mkF m 20 #[.val (.int n), .val (.int ya), .val (.int yb), .val (.int yc), .val (.int mm), .val (.int za), .val (.int zb), .val (.int zc)] [(.int (0 : Int32))]))
        exact Comes.retN X0 hx (t := .boolean) Bd.returns (by simp) hlk (hb hby d10_20) e0 ⟨(0 : Int32), rfl, N0, rfl, (by unfold own_eqs; first | (refine Or.inl ⟨rfl, by assumption, ?_, ?_, ?_⟩ <;> first | exact Or.inl (by assumption) | exact Or.inr (by assumption)) | (refine Or.inr ⟨rfl, ?_⟩; first | exact Or.inl (by assumption) | exact Or.inr (Or.inl ⟨by assumption, by assumption⟩) | exact Or.inr (Or.inr (Or.inl ⟨by assumption, by assumption⟩)) | exact Or.inr (Or.inr (Or.inr ⟨by assumption, by assumption⟩))))⟩ (by decide) (by decide)
  · refine Comes.st (fun t k => XS.icmpNo X0.here hx rfl (hb hby d10_3) rfl (feq hc3_1).1 (XS.iconst X0.here hx rfl (hb hby d10_6) k)) ?_
    show Comes p e below _ (s₁.setTop (mkF m 7 #[.val (.int n), .val (.int ya), .val (.int yb), .val (.int yc), .val (.int mm), .val (.int za), .val (.int zb), .val (.int zc)] [(.int (0 : Int32))]))
    exact Comes.retN X0 hx (t := .boolean) Bd.returns (by simp) hlk (hb hby d10_7) e0 ⟨(0 : Int32), rfl, N0, rfl, (by unfold own_eqs; first | (refine Or.inl ⟨rfl, by assumption, ?_, ?_, ?_⟩ <;> first | exact Or.inl (by assumption) | exact Or.inr (by assumption)) | (refine Or.inr ⟨rfl, ?_⟩; first | exact Or.inl (by assumption) | exact Or.inr (Or.inl ⟨by assumption, by assumption⟩) | exact Or.inr (Or.inr (Or.inl ⟨by assumption, by assumption⟩)) | exact Or.inr (Or.inr (Or.inr ⟨by assumption, by assumption⟩))))⟩ (by decide) (by decide)
def Q_rm0 (Z : State) (s1 s2 : Int32) (c1 c2 : Int64) (md cs : Int32) (h0 : Heap) (n0 : Nat) (v_ : Option Value) (h : Heap) (L_ : List Loc) : Prop := (v_ = some (.int (1 : Int32))) ∧ (Fr n0 L_)
set_option maxRecDepth 65536 in
set_option maxHeartbeats 40000000 in
theorem rm0 (l : Launch) (Z : State) (a0 : Array Value) (hw : ∀ d ∈ tables_1, d.before a0 Z = true) (ws : List Jvm.Cond) (s1 s2 : Int32) (c1 c2 : Int64) (md cs : Int32) (h0 : Heap) (n0 : Nat) (Z0 : n0 ≤ h0.size) (G0 : Sta Z Z.heap "java/lang/String" "COMPACT_STRINGS" "Z" (.int cs)) (G1 : ¬ (cs = (0 : Int32))) (G2 : Old Z n0 h0) :
    MetFree l x (head1 (Jvm.Cond.code x code maxLocals ret :: ws) room_1) (fun a_ U_ => a_ = #[(.int s1), (.int s2), (.long c1), (.long c2), (.int md)] ∧ Z.Warmed39 U_.vm ∧ U_.heap = h0 ∧ CHv Z consts_1 U_.vm h0) (fun _ _ _ _ _ => True) (fun _ U_ o_ V_ => ∃ v_ L_, o_ = .returned v_ ∧ Q_rm0 Z s1 s2 c1 c2 md cs h0 n0 v_ V_.heap L_ ∧ ReturnedEndW U_ o_ V_ L_ room_1.cells room_1.slots) := by
  refine MetFree.of_bodySF (plainFor_of_name pn_0) hisR ?_
  intro p e s m args below meth c s₁ Bd hml0 hP hK
  obtain ⟨rfl, hZ, hh, hC0⟩ := hP
  have hx := Bd.exec
  have hby := Bd.bytes
  have hml : c.maxLocals = 24 := hml0
  have hown : s.vm.findClass "com/example/soft_throttle/softthrottle/usage/RequestCountEqualsPinLaw" = some m.cls := findClass_of_methodNamed Bd.named
  have hnm := (name_of_methodNamed Bd.named Bd.method).1
  have hlk : meth.locks = false := Bd.notSynchronized
  have X0 : Stand p l e room_1 s m #[(.int s1), (.int s2), (.long c1), (.long c2), (.int md)] below meth c s₁ [] 0 0 := Stand.of_body Bd
  have e0 : s₁.heap = h0 := by rw [← hh, Bd.state]; rfl
  have N0 := Fr.nil n0
  have X0 := own_base X0
  have hZ : Z.Warmed39 (s.setVm s.vm).vm := hZ
  have C0 := CHr.refl hC0
  have hS0 : s.Since s.vm 0 := (State.WarmedH.refl s).since 0
  refine Comes.outW (Q := Q_rm0 Z s1 s2 c1 c2 md cs h0 n0) (kc := room_1.cells) (ks := room_1.slots) ?_
  refine Comes.cast (ef_rm0 m s1 s2 c1 c2 md) ?_
  show Comes p e below _ (s₁.setTop (mkF m 0 #[.val (.int s1), .val (.int s2), .val (.long c1), .second, .val (.long c2), .second, .val (.int md), .unset, .unset, .unset, .unset, .unset, .unset, .unset, .unset, .unset, .unset, .unset, .unset, .unset, .unset, .unset, .unset, .unset] []))
  refine Comes.st (fun t k => XS.iloadN X0.here hx rfl (hb hby at_0) rfl (XS.iconst X0.here hx rfl (hb hby at_1) (XS.iand X0.here hx rfl (hb hby at_2) rfl k))) ?_
  show Comes p e below _ (s₁.setTop (mkF m 3 #[.val (.int s1), .val (.int s2), .val (.long c1), .second, .val (.long c2), .second, .val (.int md), .unset, .unset, .unset, .unset, .unset, .unset, .unset, .unset, .unset, .unset, .unset, .unset, .unset, .unset, .unset, .unset, .unset] [(.int (s1 &&& (3 : Int32)))]))
  generalize hv_v1 : (s1 &&& (3 : Int32)) = v1
  show Comes p e below _ (s₁.setTop (mkF m 3 #[.val (.int s1), .val (.int s2), .val (.long c1), .second, .val (.long c2), .second, .val (.int md), .unset, .unset, .unset, .unset, .unset, .unset, .unset, .unset, .unset, .unset, .unset, .unset, .unset, .unset, .unset, .unset, .unset] [(.int v1)]))
  refine Comes.st (fun t k => XS.istore X0.here hx rfl (hb hby at_3) rfl (l' := #[.val (.int s1), .val (.int s2), .val (.long c1), .second, .val (.long c2), .second, .val (.int md), .val (.int v1), .unset, .unset, .unset, .unset, .unset, .unset, .unset, .unset, .unset, .unset, .unset, .unset, .unset, .unset, .unset, .unset]) rfl (XS.iloadN X0.here hx rfl (hb hby at_5) rfl (XS.iconst X0.here hx rfl (hb hby at_6) (XS.iushr X0.here hx rfl (hb hby at_7) rfl (XS.sipush X0.here hx rfl (hb hby at_8) (XS.iand X0.here hx rfl (hb hby at_11) rfl k)))))) ?_
  show Comes p e below _ (s₁.setTop (mkF m 12 #[.val (.int s1), .val (.int s2), .val (.long c1), .second, .val (.long c2), .second, .val (.int md), .val (.int v1), .unset, .unset, .unset, .unset, .unset, .unset, .unset, .unset, .unset, .unset, .unset, .unset, .unset, .unset, .unset, .unset] [(.int (((s1.toUInt32 >>> ((2 : Int32) &&& 31).toUInt32).toInt32) &&& (255 : Int32)))]))
  refine Comes.st (fun t k => XS.i2c X0.here hx rfl (hb hby at_12) rfl k) ?_
  show Comes p e below _ (s₁.setTop (mkF m 13 #[.val (.int s1), .val (.int s2), .val (.long c1), .second, .val (.long c2), .second, .val (.int md), .val (.int v1), .unset, .unset, .unset, .unset, .unset, .unset, .unset, .unset, .unset, .unset, .unset, .unset, .unset, .unset, .unset, .unset] [(.int ((((s1.toUInt32 >>> ((2 : Int32) &&& 31).toUInt32).toInt32) &&& (255 : Int32)).toUInt32.toUInt16.toUInt32.toInt32))]))
  generalize hv_v2 : ((((s1.toUInt32 >>> ((2 : Int32) &&& 31).toUInt32).toInt32) &&& (255 : Int32)).toUInt32.toUInt16.toUInt32.toInt32) = v2
  show Comes p e below _ (s₁.setTop (mkF m 13 #[.val (.int s1), .val (.int s2), .val (.long c1), .second, .val (.long c2), .second, .val (.int md), .val (.int v1), .unset, .unset, .unset, .unset, .unset, .unset, .unset, .unset, .unset, .unset, .unset, .unset, .unset, .unset, .unset, .unset] [(.int v2)]))
  refine Comes.st (fun t k => XS.istore X0.here hx rfl (hb hby at_13) rfl (l' := #[.val (.int s1), .val (.int s2), .val (.long c1), .second, .val (.long c2), .second, .val (.int md), .val (.int v1), .val (.int v2), .unset, .unset, .unset, .unset, .unset, .unset, .unset, .unset, .unset, .unset, .unset, .unset, .unset, .unset, .unset]) rfl (XS.iloadN X0.here hx rfl (hb hby at_15) rfl (XS.bipush X0.here hx rfl (hb hby at_16) (XS.iushr X0.here hx rfl (hb hby at_18) rfl (XS.sipush X0.here hx rfl (hb hby at_19) (XS.iand X0.here hx rfl (hb hby at_22) rfl k)))))) ?_
  show Comes p e below _ (s₁.setTop (mkF m 23 #[.val (.int s1), .val (.int s2), .val (.long c1), .second, .val (.long c2), .second, .val (.int md), .val (.int v1), .val (.int v2), .unset, .unset, .unset, .unset, .unset, .unset, .unset, .unset, .unset, .unset, .unset, .unset, .unset, .unset, .unset] [(.int (((s1.toUInt32 >>> ((10 : Int32) &&& 31).toUInt32).toInt32) &&& (255 : Int32)))]))
  refine Comes.st (fun t k => XS.i2c X0.here hx rfl (hb hby at_23) rfl k) ?_
  show Comes p e below _ (s₁.setTop (mkF m 24 #[.val (.int s1), .val (.int s2), .val (.long c1), .second, .val (.long c2), .second, .val (.int md), .val (.int v1), .val (.int v2), .unset, .unset, .unset, .unset, .unset, .unset, .unset, .unset, .unset, .unset, .unset, .unset, .unset, .unset, .unset] [(.int ((((s1.toUInt32 >>> ((10 : Int32) &&& 31).toUInt32).toInt32) &&& (255 : Int32)).toUInt32.toUInt16.toUInt32.toInt32))]))
  generalize hv_v3 : ((((s1.toUInt32 >>> ((10 : Int32) &&& 31).toUInt32).toInt32) &&& (255 : Int32)).toUInt32.toUInt16.toUInt32.toInt32) = v3
  show Comes p e below _ (s₁.setTop (mkF m 24 #[.val (.int s1), .val (.int s2), .val (.long c1), .second, .val (.long c2), .second, .val (.int md), .val (.int v1), .val (.int v2), .unset, .unset, .unset, .unset, .unset, .unset, .unset, .unset, .unset, .unset, .unset, .unset, .unset, .unset, .unset] [(.int v3)]))
  refine Comes.st (fun t k => XS.istore X0.here hx rfl (hb hby at_24) rfl (l' := #[.val (.int s1), .val (.int s2), .val (.long c1), .second, .val (.long c2), .second, .val (.int md), .val (.int v1), .val (.int v2), .val (.int v3), .unset, .unset, .unset, .unset, .unset, .unset, .unset, .unset, .unset, .unset, .unset, .unset, .unset, .unset]) rfl (XS.iloadN X0.here hx rfl (hb hby at_26) rfl (XS.bipush X0.here hx rfl (hb hby at_27) (XS.iushr X0.here hx rfl (hb hby at_29) rfl (XS.sipush X0.here hx rfl (hb hby at_30) (XS.iand X0.here hx rfl (hb hby at_33) rfl k)))))) ?_
  show Comes p e below _ (s₁.setTop (mkF m 34 #[.val (.int s1), .val (.int s2), .val (.long c1), .second, .val (.long c2), .second, .val (.int md), .val (.int v1), .val (.int v2), .val (.int v3), .unset, .unset, .unset, .unset, .unset, .unset, .unset, .unset, .unset, .unset, .unset, .unset, .unset, .unset] [(.int (((s1.toUInt32 >>> ((18 : Int32) &&& 31).toUInt32).toInt32) &&& (255 : Int32)))]))
  refine Comes.st (fun t k => XS.i2c X0.here hx rfl (hb hby at_34) rfl k) ?_
  show Comes p e below _ (s₁.setTop (mkF m 35 #[.val (.int s1), .val (.int s2), .val (.long c1), .second, .val (.long c2), .second, .val (.int md), .val (.int v1), .val (.int v2), .val (.int v3), .unset, .unset, .unset, .unset, .unset, .unset, .unset, .unset, .unset, .unset, .unset, .unset, .unset, .unset] [(.int ((((s1.toUInt32 >>> ((18 : Int32) &&& 31).toUInt32).toInt32) &&& (255 : Int32)).toUInt32.toUInt16.toUInt32.toInt32))]))
  generalize hv_v4 : ((((s1.toUInt32 >>> ((18 : Int32) &&& 31).toUInt32).toInt32) &&& (255 : Int32)).toUInt32.toUInt16.toUInt32.toInt32) = v4
  show Comes p e below _ (s₁.setTop (mkF m 35 #[.val (.int s1), .val (.int s2), .val (.long c1), .second, .val (.long c2), .second, .val (.int md), .val (.int v1), .val (.int v2), .val (.int v3), .unset, .unset, .unset, .unset, .unset, .unset, .unset, .unset, .unset, .unset, .unset, .unset, .unset, .unset] [(.int v4)]))
  refine Comes.st (fun t k => XS.istore X0.here hx rfl (hb hby at_35) rfl (l' := #[.val (.int s1), .val (.int s2), .val (.long c1), .second, .val (.long c2), .second, .val (.int md), .val (.int v1), .val (.int v2), .val (.int v3), .val (.int v4), .unset, .unset, .unset, .unset, .unset, .unset, .unset, .unset, .unset, .unset, .unset, .unset, .unset]) rfl (XS.iload X0.here hx rfl (hb hby at_37) rfl (XS.iconst X0.here hx rfl (hb hby at_39) (XS.iand X0.here hx rfl (hb hby at_40) rfl k)))) ?_
  have J5 : Comes p e below (fun S' => ∃ (T' : State), ∃ (L' : List Loc), ∃ (j7 : Int32), (S' = T'.setTop (mkF m 49 #[.val (.int s1), .val (.int s2), .val (.long c1), .second, .val (.long c2), .second, .val (.int md), .val (.int v1), .val (.int v2), .val (.int v3), .val (.int v4), .unset, .unset, .unset, .unset, .unset, .unset, .unset, .unset, .unset, .unset, .unset, .unset, .unset] [(.int j7)])) ∧ (Stand p l e room_1 (s.setVm s.vm) m #[(.int s1), (.int s2), (.long c1), (.long c2), (.int md)] below meth c T' L' 0 0) ∧ (T'.heap = h0) ∧ (Fr n0 L') ∧ (True)) (s₁.setTop (mkF m 41 #[.val (.int s1), .val (.int s2), .val (.long c1), .second, .val (.long c2), .second, .val (.int md), .val (.int v1), .val (.int v2), .val (.int v3), .val (.int v4), .unset, .unset, .unset, .unset, .unset, .unset, .unset, .unset, .unset, .unset, .unset, .unset, .unset] [(.int (md &&& (1 : Int32)))])) := by
    show Comes p e below _ (s₁.setTop (mkF m 41 #[.val (.int s1), .val (.int s2), .val (.long c1), .second, .val (.long c2), .second, .val (.int md), .val (.int v1), .val (.int v2), .val (.int v3), .val (.int v4), .unset, .unset, .unset, .unset, .unset, .unset, .unset, .unset, .unset, .unset, .unset, .unset, .unset] [(.int (md &&& (1 : Int32)))]))
    by_cases hc41_6 : (md &&& (1 : Int32)) = (0 : Int32)
    · refine Comes.st (fun t k => XS.ifYes X0.here hx rfl (pc0 := 41) (pc' := 48) rfl (hb hby at_41) rfl ((if0 _ _).trans (teq hc41_6).1) (by decide) (by decide) (XS.iloadN X0.here hx rfl (hb hby at_48) rfl k)) ?_
      show Comes p e below _ (s₁.setTop (mkF m 49 #[.val (.int s1), .val (.int s2), .val (.long c1), .second, .val (.long c2), .second, .val (.int md), .val (.int v1), .val (.int v2), .val (.int v3), .val (.int v4), .unset, .unset, .unset, .unset, .unset, .unset, .unset, .unset, .unset, .unset, .unset, .unset, .unset] [(.int s2)]))
      exact Comes.here ⟨_, _, s2, rfl, X0, e0, N0, (by trivial)⟩
    · refine Comes.st (fun t k => XS.ifNo X0.here hx rfl (hb hby at_41) rfl ((if0 _ _).trans (feq hc41_6).1) (XS.iloadN X0.here hx rfl (hb hby at_44) rfl (XS.goto X0.here hx rfl (pc0 := 45) (pc' := 49) rfl (hb hby at_45) (by decide) (by decide) k))) ?_
      show Comes p e below _ (s₁.setTop (mkF m 49 #[.val (.int s1), .val (.int s2), .val (.long c1), .second, .val (.long c2), .second, .val (.int md), .val (.int v1), .val (.int v2), .val (.int v3), .val (.int v4), .unset, .unset, .unset, .unset, .unset, .unset, .unset, .unset, .unset, .unset, .unset, .unset, .unset] [(.int s1)]))
      exact Comes.here ⟨_, _, s1, rfl, X0, e0, N0, (by trivial)⟩
  obtain ⟨_, st8, T8, L8, j7, rfl, X8, e8, N8, rel8⟩ := J5
  refine Comes.go st8 ?_
  show Comes p e below _ (T8.setTop (mkF m 49 #[.val (.int s1), .val (.int s2), .val (.long c1), .second, .val (.long c2), .second, .val (.int md), .val (.int v1), .val (.int v2), .val (.int v3), .val (.int v4), .unset, .unset, .unset, .unset, .unset, .unset, .unset, .unset, .unset, .unset, .unset, .unset, .unset] [(.int j7)]))
  refine Comes.st (fun t k => XS.istore X8.here hx rfl (hb hby at_49) rfl (l' := #[.val (.int s1), .val (.int s2), .val (.long c1), .second, .val (.long c2), .second, .val (.int md), .val (.int v1), .val (.int v2), .val (.int v3), .val (.int v4), .val (.int j7), .unset, .unset, .unset, .unset, .unset, .unset, .unset, .unset, .unset, .unset, .unset, .unset]) rfl (XS.iload X8.here hx rfl (hb hby at_51) rfl (XS.iconst X8.here hx rfl (hb hby at_53) (XS.iand X8.here hx rfl (hb hby at_54) rfl k)))) ?_
  show Comes p e below _ (T8.setTop (mkF m 55 #[.val (.int s1), .val (.int s2), .val (.long c1), .second, .val (.long c2), .second, .val (.int md), .val (.int v1), .val (.int v2), .val (.int v3), .val (.int v4), .val (.int j7), .unset, .unset, .unset, .unset, .unset, .unset, .unset, .unset, .unset, .unset, .unset, .unset] [(.int (j7 &&& (3 : Int32)))]))
  generalize hv_v9 : (j7 &&& (3 : Int32)) = v9
  show Comes p e below _ (T8.setTop (mkF m 55 #[.val (.int s1), .val (.int s2), .val (.long c1), .second, .val (.long c2), .second, .val (.int md), .val (.int v1), .val (.int v2), .val (.int v3), .val (.int v4), .val (.int j7), .unset, .unset, .unset, .unset, .unset, .unset, .unset, .unset, .unset, .unset, .unset, .unset] [(.int v9)]))
  refine Comes.st (fun t k => XS.istore X8.here hx rfl (hb hby at_55) rfl (l' := #[.val (.int s1), .val (.int s2), .val (.long c1), .second, .val (.long c2), .second, .val (.int md), .val (.int v1), .val (.int v2), .val (.int v3), .val (.int v4), .val (.int j7), .val (.int v9), .unset, .unset, .unset, .unset, .unset, .unset, .unset, .unset, .unset, .unset, .unset]) rfl (XS.iload X8.here hx rfl (hb hby at_57) rfl (XS.iconst X8.here hx rfl (hb hby at_59) (XS.iushr X8.here hx rfl (hb hby at_60) rfl (XS.sipush X8.here hx rfl (hb hby at_61) (XS.iand X8.here hx rfl (hb hby at_64) rfl k)))))) ?_
  show Comes p e below _ (T8.setTop (mkF m 65 #[.val (.int s1), .val (.int s2), .val (.long c1), .second, .val (.long c2), .second, .val (.int md), .val (.int v1), .val (.int v2), .val (.int v3), .val (.int v4), .val (.int j7), .val (.int v9), .unset, .unset, .unset, .unset, .unset, .unset, .unset, .unset, .unset, .unset, .unset] [(.int (((j7.toUInt32 >>> ((2 : Int32) &&& 31).toUInt32).toInt32) &&& (255 : Int32)))]))
  refine Comes.st (fun t k => XS.i2c X8.here hx rfl (hb hby at_65) rfl k) ?_
  show Comes p e below _ (T8.setTop (mkF m 66 #[.val (.int s1), .val (.int s2), .val (.long c1), .second, .val (.long c2), .second, .val (.int md), .val (.int v1), .val (.int v2), .val (.int v3), .val (.int v4), .val (.int j7), .val (.int v9), .unset, .unset, .unset, .unset, .unset, .unset, .unset, .unset, .unset, .unset, .unset] [(.int ((((j7.toUInt32 >>> ((2 : Int32) &&& 31).toUInt32).toInt32) &&& (255 : Int32)).toUInt32.toUInt16.toUInt32.toInt32))]))
  generalize hv_v10 : ((((j7.toUInt32 >>> ((2 : Int32) &&& 31).toUInt32).toInt32) &&& (255 : Int32)).toUInt32.toUInt16.toUInt32.toInt32) = v10
  show Comes p e below _ (T8.setTop (mkF m 66 #[.val (.int s1), .val (.int s2), .val (.long c1), .second, .val (.long c2), .second, .val (.int md), .val (.int v1), .val (.int v2), .val (.int v3), .val (.int v4), .val (.int j7), .val (.int v9), .unset, .unset, .unset, .unset, .unset, .unset, .unset, .unset, .unset, .unset, .unset] [(.int v10)]))
  refine Comes.st (fun t k => XS.istore X8.here hx rfl (hb hby at_66) rfl (l' := #[.val (.int s1), .val (.int s2), .val (.long c1), .second, .val (.long c2), .second, .val (.int md), .val (.int v1), .val (.int v2), .val (.int v3), .val (.int v4), .val (.int j7), .val (.int v9), .val (.int v10), .unset, .unset, .unset, .unset, .unset, .unset, .unset, .unset, .unset, .unset]) rfl (XS.iload X8.here hx rfl (hb hby at_68) rfl (XS.bipush X8.here hx rfl (hb hby at_70) (XS.iushr X8.here hx rfl (hb hby at_72) rfl (XS.sipush X8.here hx rfl (hb hby at_73) (XS.iand X8.here hx rfl (hb hby at_76) rfl k)))))) ?_
  show Comes p e below _ (T8.setTop (mkF m 77 #[.val (.int s1), .val (.int s2), .val (.long c1), .second, .val (.long c2), .second, .val (.int md), .val (.int v1), .val (.int v2), .val (.int v3), .val (.int v4), .val (.int j7), .val (.int v9), .val (.int v10), .unset, .unset, .unset, .unset, .unset, .unset, .unset, .unset, .unset, .unset] [(.int (((j7.toUInt32 >>> ((10 : Int32) &&& 31).toUInt32).toInt32) &&& (255 : Int32)))]))
  refine Comes.st (fun t k => XS.i2c X8.here hx rfl (hb hby at_77) rfl k) ?_
  show Comes p e below _ (T8.setTop (mkF m 78 #[.val (.int s1), .val (.int s2), .val (.long c1), .second, .val (.long c2), .second, .val (.int md), .val (.int v1), .val (.int v2), .val (.int v3), .val (.int v4), .val (.int j7), .val (.int v9), .val (.int v10), .unset, .unset, .unset, .unset, .unset, .unset, .unset, .unset, .unset, .unset] [(.int ((((j7.toUInt32 >>> ((10 : Int32) &&& 31).toUInt32).toInt32) &&& (255 : Int32)).toUInt32.toUInt16.toUInt32.toInt32))]))
  generalize hv_v11 : ((((j7.toUInt32 >>> ((10 : Int32) &&& 31).toUInt32).toInt32) &&& (255 : Int32)).toUInt32.toUInt16.toUInt32.toInt32) = v11
  show Comes p e below _ (T8.setTop (mkF m 78 #[.val (.int s1), .val (.int s2), .val (.long c1), .second, .val (.long c2), .second, .val (.int md), .val (.int v1), .val (.int v2), .val (.int v3), .val (.int v4), .val (.int j7), .val (.int v9), .val (.int v10), .unset, .unset, .unset, .unset, .unset, .unset, .unset, .unset, .unset, .unset] [(.int v11)]))
  refine Comes.st (fun t k => XS.istore X8.here hx rfl (hb hby at_78) rfl (l' := #[.val (.int s1), .val (.int s2), .val (.long c1), .second, .val (.long c2), .second, .val (.int md), .val (.int v1), .val (.int v2), .val (.int v3), .val (.int v4), .val (.int j7), .val (.int v9), .val (.int v10), .val (.int v11), .unset, .unset, .unset, .unset, .unset, .unset, .unset, .unset, .unset]) rfl (XS.iload X8.here hx rfl (hb hby at_80) rfl (XS.bipush X8.here hx rfl (hb hby at_82) (XS.iushr X8.here hx rfl (hb hby at_84) rfl (XS.sipush X8.here hx rfl (hb hby at_85) (XS.iand X8.here hx rfl (hb hby at_88) rfl k)))))) ?_
  show Comes p e below _ (T8.setTop (mkF m 89 #[.val (.int s1), .val (.int s2), .val (.long c1), .second, .val (.long c2), .second, .val (.int md), .val (.int v1), .val (.int v2), .val (.int v3), .val (.int v4), .val (.int j7), .val (.int v9), .val (.int v10), .val (.int v11), .unset, .unset, .unset, .unset, .unset, .unset, .unset, .unset, .unset] [(.int (((j7.toUInt32 >>> ((18 : Int32) &&& 31).toUInt32).toInt32) &&& (255 : Int32)))]))
  refine Comes.st (fun t k => XS.i2c X8.here hx rfl (hb hby at_89) rfl k) ?_
  show Comes p e below _ (T8.setTop (mkF m 90 #[.val (.int s1), .val (.int s2), .val (.long c1), .second, .val (.long c2), .second, .val (.int md), .val (.int v1), .val (.int v2), .val (.int v3), .val (.int v4), .val (.int j7), .val (.int v9), .val (.int v10), .val (.int v11), .unset, .unset, .unset, .unset, .unset, .unset, .unset, .unset, .unset] [(.int ((((j7.toUInt32 >>> ((18 : Int32) &&& 31).toUInt32).toInt32) &&& (255 : Int32)).toUInt32.toUInt16.toUInt32.toInt32))]))
  generalize hv_v12 : ((((j7.toUInt32 >>> ((18 : Int32) &&& 31).toUInt32).toInt32) &&& (255 : Int32)).toUInt32.toUInt16.toUInt32.toInt32) = v12
  show Comes p e below _ (T8.setTop (mkF m 90 #[.val (.int s1), .val (.int s2), .val (.long c1), .second, .val (.long c2), .second, .val (.int md), .val (.int v1), .val (.int v2), .val (.int v3), .val (.int v4), .val (.int j7), .val (.int v9), .val (.int v10), .val (.int v11), .unset, .unset, .unset, .unset, .unset, .unset, .unset, .unset, .unset] [(.int v12)]))
  refine Comes.st (fun t k => XS.istore X8.here hx rfl (hb hby at_90) rfl (l' := #[.val (.int s1), .val (.int s2), .val (.long c1), .second, .val (.long c2), .second, .val (.int md), .val (.int v1), .val (.int v2), .val (.int v3), .val (.int v4), .val (.int j7), .val (.int v9), .val (.int v10), .val (.int v11), .val (.int v12), .unset, .unset, .unset, .unset, .unset, .unset, .unset, .unset]) rfl (XS.iload X8.here hx rfl (hb hby at_92) rfl (XS.iconst X8.here hx rfl (hb hby at_94) (XS.iand X8.here hx rfl (hb hby at_95) rfl k)))) ?_
  have J13 : Comes p e below (fun S' => ∃ (T' : State), ∃ (L' : List Loc), ∃ (j15 : Int64), (S' = T'.setTop (mkF m 105 #[.val (.int s1), .val (.int s2), .val (.long c1), .second, .val (.long c2), .second, .val (.int md), .val (.int v1), .val (.int v2), .val (.int v3), .val (.int v4), .val (.int j7), .val (.int v9), .val (.int v10), .val (.int v11), .val (.int v12), .unset, .unset, .unset, .unset, .unset, .unset, .unset, .unset] [(.long j15)])) ∧ (Stand p l e room_1 (s.setVm s.vm) m #[(.int s1), (.int s2), (.long c1), (.long c2), (.int md)] below meth c T' L' 0 0) ∧ (T'.heap = h0) ∧ (Fr n0 L') ∧ (True)) (T8.setTop (mkF m 96 #[.val (.int s1), .val (.int s2), .val (.long c1), .second, .val (.long c2), .second, .val (.int md), .val (.int v1), .val (.int v2), .val (.int v3), .val (.int v4), .val (.int j7), .val (.int v9), .val (.int v10), .val (.int v11), .val (.int v12), .unset, .unset, .unset, .unset, .unset, .unset, .unset, .unset] [(.int (md &&& (2 : Int32)))])) := by
    show Comes p e below _ (T8.setTop (mkF m 96 #[.val (.int s1), .val (.int s2), .val (.long c1), .second, .val (.long c2), .second, .val (.int md), .val (.int v1), .val (.int v2), .val (.int v3), .val (.int v4), .val (.int j7), .val (.int v9), .val (.int v10), .val (.int v11), .val (.int v12), .unset, .unset, .unset, .unset, .unset, .unset, .unset, .unset] [(.int (md &&& (2 : Int32)))]))
    by_cases hc96_14 : (md &&& (2 : Int32)) = (0 : Int32)
    · refine Comes.st (fun t k => XS.ifYes X8.here hx rfl (pc0 := 96) (pc' := 103) rfl (hb hby at_96) rfl ((if0 _ _).trans (teq hc96_14).1) (by decide) (by decide) (XS.lload X8.here hx rfl (hb hby at_103) rfl k)) ?_
      show Comes p e below _ (T8.setTop (mkF m 105 #[.val (.int s1), .val (.int s2), .val (.long c1), .second, .val (.long c2), .second, .val (.int md), .val (.int v1), .val (.int v2), .val (.int v3), .val (.int v4), .val (.int j7), .val (.int v9), .val (.int v10), .val (.int v11), .val (.int v12), .unset, .unset, .unset, .unset, .unset, .unset, .unset, .unset] [(.long c2)]))
      exact Comes.here ⟨_, _, c2, rfl, X8, e8, N8, (by trivial)⟩
    · refine Comes.st (fun t k => XS.ifNo X8.here hx rfl (hb hby at_96) rfl ((if0 _ _).trans (feq hc96_14).1) (XS.lloadN X8.here hx rfl (hb hby at_99) rfl (XS.goto X8.here hx rfl (pc0 := 100) (pc' := 105) rfl (hb hby at_100) (by decide) (by decide) k))) ?_
      show Comes p e below _ (T8.setTop (mkF m 105 #[.val (.int s1), .val (.int s2), .val (.long c1), .second, .val (.long c2), .second, .val (.int md), .val (.int v1), .val (.int v2), .val (.int v3), .val (.int v4), .val (.int j7), .val (.int v9), .val (.int v10), .val (.int v11), .val (.int v12), .unset, .unset, .unset, .unset, .unset, .unset, .unset, .unset] [(.long c1)]))
      exact Comes.here ⟨_, _, c1, rfl, X8, e8, N8, (by trivial)⟩
  obtain ⟨_, st16, T16, L16, j15, rfl, X16, e16, N16, rel16⟩ := J13
  refine Comes.go st16 ?_
  show Comes p e below _ (T16.setTop (mkF m 105 #[.val (.int s1), .val (.int s2), .val (.long c1), .second, .val (.long c2), .second, .val (.int md), .val (.int v1), .val (.int v2), .val (.int v3), .val (.int v4), .val (.int j7), .val (.int v9), .val (.int v10), .val (.int v11), .val (.int v12), .unset, .unset, .unset, .unset, .unset, .unset, .unset, .unset] [(.long j15)]))
  refine Comes.st (fun t k => XS.lstore X16.here hx rfl (hb hby at_105) rfl (l' := #[.val (.int s1), .val (.int s2), .val (.long c1), .second, .val (.long c2), .second, .val (.int md), .val (.int v1), .val (.int v2), .val (.int v3), .val (.int v4), .val (.int j7), .val (.int v9), .val (.int v10), .val (.int v11), .val (.int v12), .val (.long j15), .second, .unset, .unset, .unset, .unset, .unset, .unset]) rfl k) ?_
  have bd17 : 0 ≤ v2.toInt ∧ v2.toInt ≤ 255 := by have a_0 := c_mask s1 (3 : Int32) 2 (by decide) (by decide); rw [hv_v1] at a_0; have a_1 := c_iushr s1 (2 : Int32) 2 (by decide) (by decide); have a_2 := c_mask ((s1.toUInt32 >>> ((2 : Int32) &&& 31).toUInt32).toInt32) (255 : Int32) 8 (by decide) (by decide); have a_3 := c_i2c (((s1.toUInt32 >>> ((2 : Int32) &&& 31).toUInt32).toInt32) &&& (255 : Int32)); rw [hv_v2] at a_3; have a_4 := c_iushr s1 (10 : Int32) 10 (by decide) (by decide); have a_5 := c_mask ((s1.toUInt32 >>> ((10 : Int32) &&& 31).toUInt32).toInt32) (255 : Int32) 8 (by decide) (by decide); have a_6 := c_i2c (((s1.toUInt32 >>> ((10 : Int32) &&& 31).toUInt32).toInt32) &&& (255 : Int32)); rw [hv_v3] at a_6; have a_7 := c_iushr s1 (18 : Int32) 18 (by decide) (by decide); have a_8 := c_mask ((s1.toUInt32 >>> ((18 : Int32) &&& 31).toUInt32).toInt32) (255 : Int32) 8 (by decide) (by decide); have a_9 := c_i2c (((s1.toUInt32 >>> ((18 : Int32) &&& 31).toUInt32).toInt32) &&& (255 : Int32)); rw [hv_v4] at a_9; have a_10 := c_mask md (1 : Int32) 1 (by decide) (by decide); have a_11 := c_mask j7 (3 : Int32) 2 (by decide) (by decide); rw [hv_v9] at a_11; have a_12 := c_iushr j7 (2 : Int32) 2 (by decide) (by decide); have a_13 := c_mask ((j7.toUInt32 >>> ((2 : Int32) &&& 31).toUInt32).toInt32) (255 : Int32) 8 (by decide) (by decide); have a_14 := c_i2c (((j7.toUInt32 >>> ((2 : Int32) &&& 31).toUInt32).toInt32) &&& (255 : Int32)); rw [hv_v10] at a_14; have a_15 := c_iushr j7 (10 : Int32) 10 (by decide) (by decide); have a_16 := c_mask ((j7.toUInt32 >>> ((10 : Int32) &&& 31).toUInt32).toInt32) (255 : Int32) 8 (by decide) (by decide); have a_17 := c_i2c (((j7.toUInt32 >>> ((10 : Int32) &&& 31).toUInt32).toInt32) &&& (255 : Int32)); rw [hv_v11] at a_17; have a_18 := c_iushr j7 (18 : Int32) 18 (by decide) (by decide); have a_19 := c_mask ((j7.toUInt32 >>> ((18 : Int32) &&& 31).toUInt32).toInt32) (255 : Int32) 8 (by decide) (by decide); have a_20 := c_i2c (((j7.toUInt32 >>> ((18 : Int32) &&& 31).toUInt32).toInt32) &&& (255 : Int32)); rw [hv_v12] at a_20; have a_21 := c_and md (2 : Int32) (by decide); have a_22 := rng32 (((j7.toUInt32 >>> ((10 : Int32) &&& 31).toUInt32).toInt32) &&& (255 : Int32)); have a_23 := rng32 (((j7.toUInt32 >>> ((18 : Int32) &&& 31).toUInt32).toInt32) &&& (255 : Int32)); have a_24 := rng32 (((j7.toUInt32 >>> ((2 : Int32) &&& 31).toUInt32).toInt32) &&& (255 : Int32)); have a_25 := rng32 (((s1.toUInt32 >>> ((10 : Int32) &&& 31).toUInt32).toInt32) &&& (255 : Int32)); have a_26 := rng32 (((s1.toUInt32 >>> ((18 : Int32) &&& 31).toUInt32).toInt32) &&& (255 : Int32)); have a_27 := rng32 (((s1.toUInt32 >>> ((2 : Int32) &&& 31).toUInt32).toInt32) &&& (255 : Int32)); have a_28 := rng32 ((j7.toUInt32 >>> ((10 : Int32) &&& 31).toUInt32).toInt32); have a_29 := rng32 ((j7.toUInt32 >>> ((18 : Int32) &&& 31).toUInt32).toInt32); have a_30 := rng32 ((j7.toUInt32 >>> ((2 : Int32) &&& 31).toUInt32).toInt32); have a_31 := rng32 ((s1.toUInt32 >>> ((10 : Int32) &&& 31).toUInt32).toInt32); have a_32 := rng32 ((s1.toUInt32 >>> ((18 : Int32) &&& 31).toUInt32).toInt32); have a_33 := rng32 ((s1.toUInt32 >>> ((2 : Int32) &&& 31).toUInt32).toInt32); have a_34 := rng32 (md &&& (1 : Int32)); have a_35 := rng32 (md &&& (2 : Int32)); have a_36 := rng32 j7; have a_37 := rng32 md; have a_38 := rng32 s1; have a_39 := rng32 v1; have a_40 := rng32 v10; have a_41 := rng32 v11; have a_42 := rng32 v12; have a_43 := rng32 v2; have a_44 := rng32 v3; have a_45 := rng32 v4; have a_46 := rng32 v9; (try simp only [Int32.lt_iff_toInt_lt, Int64.lt_iff_toInt_lt, ← Int32.toInt_inj, ← Int64.toInt_inj, Int32.reduceToInt, Int64.reduceToInt, eq_self, and_true, true_and, or_true, true_or, and_false, false_and, or_false, false_or, not_true_eq_false, not_false_eq_true] at a_0 a_1 a_2 a_3 a_4 a_5 a_6 a_7 a_8 a_9 a_10 a_11 a_12 a_13 a_14 a_15 a_16 a_17 a_18 a_19 a_20 a_21 a_22 a_23 a_24 a_25 a_26 a_27 a_28 a_29 a_30 a_31 a_32 a_33 a_34 a_35 a_36 a_37 a_38 a_39 a_40 a_41 a_42 a_43 a_44 a_45 a_46 ⊢) <;> omega
  have bd18 : 0 ≤ v3.toInt ∧ v3.toInt ≤ 255 := by have a_0 := c_mask s1 (3 : Int32) 2 (by decide) (by decide); rw [hv_v1] at a_0; have a_1 := c_iushr s1 (2 : Int32) 2 (by decide) (by decide); have a_2 := c_mask ((s1.toUInt32 >>> ((2 : Int32) &&& 31).toUInt32).toInt32) (255 : Int32) 8 (by decide) (by decide); have a_3 := c_i2c (((s1.toUInt32 >>> ((2 : Int32) &&& 31).toUInt32).toInt32) &&& (255 : Int32)); rw [hv_v2] at a_3; have a_4 := c_iushr s1 (10 : Int32) 10 (by decide) (by decide); have a_5 := c_mask ((s1.toUInt32 >>> ((10 : Int32) &&& 31).toUInt32).toInt32) (255 : Int32) 8 (by decide) (by decide); have a_6 := c_i2c (((s1.toUInt32 >>> ((10 : Int32) &&& 31).toUInt32).toInt32) &&& (255 : Int32)); rw [hv_v3] at a_6; have a_7 := c_iushr s1 (18 : Int32) 18 (by decide) (by decide); have a_8 := c_mask ((s1.toUInt32 >>> ((18 : Int32) &&& 31).toUInt32).toInt32) (255 : Int32) 8 (by decide) (by decide); have a_9 := c_i2c (((s1.toUInt32 >>> ((18 : Int32) &&& 31).toUInt32).toInt32) &&& (255 : Int32)); rw [hv_v4] at a_9; have a_10 := c_mask md (1 : Int32) 1 (by decide) (by decide); have a_11 := c_mask j7 (3 : Int32) 2 (by decide) (by decide); rw [hv_v9] at a_11; have a_12 := c_iushr j7 (2 : Int32) 2 (by decide) (by decide); have a_13 := c_mask ((j7.toUInt32 >>> ((2 : Int32) &&& 31).toUInt32).toInt32) (255 : Int32) 8 (by decide) (by decide); have a_14 := c_i2c (((j7.toUInt32 >>> ((2 : Int32) &&& 31).toUInt32).toInt32) &&& (255 : Int32)); rw [hv_v10] at a_14; have a_15 := c_iushr j7 (10 : Int32) 10 (by decide) (by decide); have a_16 := c_mask ((j7.toUInt32 >>> ((10 : Int32) &&& 31).toUInt32).toInt32) (255 : Int32) 8 (by decide) (by decide); have a_17 := c_i2c (((j7.toUInt32 >>> ((10 : Int32) &&& 31).toUInt32).toInt32) &&& (255 : Int32)); rw [hv_v11] at a_17; have a_18 := c_iushr j7 (18 : Int32) 18 (by decide) (by decide); have a_19 := c_mask ((j7.toUInt32 >>> ((18 : Int32) &&& 31).toUInt32).toInt32) (255 : Int32) 8 (by decide) (by decide); have a_20 := c_i2c (((j7.toUInt32 >>> ((18 : Int32) &&& 31).toUInt32).toInt32) &&& (255 : Int32)); rw [hv_v12] at a_20; have a_21 := c_and md (2 : Int32) (by decide); have a_22 := rng32 (((j7.toUInt32 >>> ((10 : Int32) &&& 31).toUInt32).toInt32) &&& (255 : Int32)); have a_23 := rng32 (((j7.toUInt32 >>> ((18 : Int32) &&& 31).toUInt32).toInt32) &&& (255 : Int32)); have a_24 := rng32 (((j7.toUInt32 >>> ((2 : Int32) &&& 31).toUInt32).toInt32) &&& (255 : Int32)); have a_25 := rng32 (((s1.toUInt32 >>> ((10 : Int32) &&& 31).toUInt32).toInt32) &&& (255 : Int32)); have a_26 := rng32 (((s1.toUInt32 >>> ((18 : Int32) &&& 31).toUInt32).toInt32) &&& (255 : Int32)); have a_27 := rng32 (((s1.toUInt32 >>> ((2 : Int32) &&& 31).toUInt32).toInt32) &&& (255 : Int32)); have a_28 := rng32 ((j7.toUInt32 >>> ((10 : Int32) &&& 31).toUInt32).toInt32); have a_29 := rng32 ((j7.toUInt32 >>> ((18 : Int32) &&& 31).toUInt32).toInt32); have a_30 := rng32 ((j7.toUInt32 >>> ((2 : Int32) &&& 31).toUInt32).toInt32); have a_31 := rng32 ((s1.toUInt32 >>> ((10 : Int32) &&& 31).toUInt32).toInt32); have a_32 := rng32 ((s1.toUInt32 >>> ((18 : Int32) &&& 31).toUInt32).toInt32); have a_33 := rng32 ((s1.toUInt32 >>> ((2 : Int32) &&& 31).toUInt32).toInt32); have a_34 := rng32 (md &&& (1 : Int32)); have a_35 := rng32 (md &&& (2 : Int32)); have a_36 := rng32 j7; have a_37 := rng32 md; have a_38 := rng32 s1; have a_39 := rng32 v1; have a_40 := rng32 v10; have a_41 := rng32 v11; have a_42 := rng32 v12; have a_43 := rng32 v2; have a_44 := rng32 v3; have a_45 := rng32 v4; have a_46 := rng32 v9; (try simp only [Int32.lt_iff_toInt_lt, Int64.lt_iff_toInt_lt, ← Int32.toInt_inj, ← Int64.toInt_inj, Int32.reduceToInt, Int64.reduceToInt, eq_self, and_true, true_and, or_true, true_or, and_false, false_and, or_false, false_or, not_true_eq_false, not_false_eq_true] at a_0 a_1 a_2 a_3 a_4 a_5 a_6 a_7 a_8 a_9 a_10 a_11 a_12 a_13 a_14 a_15 a_16 a_17 a_18 a_19 a_20 a_21 a_22 a_23 a_24 a_25 a_26 a_27 a_28 a_29 a_30 a_31 a_32 a_33 a_34 a_35 a_36 a_37 a_38 a_39 a_40 a_41 a_42 a_43 a_44 a_45 a_46 ⊢) <;> omega
  have bd19 : 0 ≤ v4.toInt ∧ v4.toInt ≤ 255 := by have a_0 := c_mask s1 (3 : Int32) 2 (by decide) (by decide); rw [hv_v1] at a_0; have a_1 := c_iushr s1 (2 : Int32) 2 (by decide) (by decide); have a_2 := c_mask ((s1.toUInt32 >>> ((2 : Int32) &&& 31).toUInt32).toInt32) (255 : Int32) 8 (by decide) (by decide); have a_3 := c_i2c (((s1.toUInt32 >>> ((2 : Int32) &&& 31).toUInt32).toInt32) &&& (255 : Int32)); rw [hv_v2] at a_3; have a_4 := c_iushr s1 (10 : Int32) 10 (by decide) (by decide); have a_5 := c_mask ((s1.toUInt32 >>> ((10 : Int32) &&& 31).toUInt32).toInt32) (255 : Int32) 8 (by decide) (by decide); have a_6 := c_i2c (((s1.toUInt32 >>> ((10 : Int32) &&& 31).toUInt32).toInt32) &&& (255 : Int32)); rw [hv_v3] at a_6; have a_7 := c_iushr s1 (18 : Int32) 18 (by decide) (by decide); have a_8 := c_mask ((s1.toUInt32 >>> ((18 : Int32) &&& 31).toUInt32).toInt32) (255 : Int32) 8 (by decide) (by decide); have a_9 := c_i2c (((s1.toUInt32 >>> ((18 : Int32) &&& 31).toUInt32).toInt32) &&& (255 : Int32)); rw [hv_v4] at a_9; have a_10 := c_mask md (1 : Int32) 1 (by decide) (by decide); have a_11 := c_mask j7 (3 : Int32) 2 (by decide) (by decide); rw [hv_v9] at a_11; have a_12 := c_iushr j7 (2 : Int32) 2 (by decide) (by decide); have a_13 := c_mask ((j7.toUInt32 >>> ((2 : Int32) &&& 31).toUInt32).toInt32) (255 : Int32) 8 (by decide) (by decide); have a_14 := c_i2c (((j7.toUInt32 >>> ((2 : Int32) &&& 31).toUInt32).toInt32) &&& (255 : Int32)); rw [hv_v10] at a_14; have a_15 := c_iushr j7 (10 : Int32) 10 (by decide) (by decide); have a_16 := c_mask ((j7.toUInt32 >>> ((10 : Int32) &&& 31).toUInt32).toInt32) (255 : Int32) 8 (by decide) (by decide); have a_17 := c_i2c (((j7.toUInt32 >>> ((10 : Int32) &&& 31).toUInt32).toInt32) &&& (255 : Int32)); rw [hv_v11] at a_17; have a_18 := c_iushr j7 (18 : Int32) 18 (by decide) (by decide); have a_19 := c_mask ((j7.toUInt32 >>> ((18 : Int32) &&& 31).toUInt32).toInt32) (255 : Int32) 8 (by decide) (by decide); have a_20 := c_i2c (((j7.toUInt32 >>> ((18 : Int32) &&& 31).toUInt32).toInt32) &&& (255 : Int32)); rw [hv_v12] at a_20; have a_21 := c_and md (2 : Int32) (by decide); have a_22 := rng32 (((j7.toUInt32 >>> ((10 : Int32) &&& 31).toUInt32).toInt32) &&& (255 : Int32)); have a_23 := rng32 (((j7.toUInt32 >>> ((18 : Int32) &&& 31).toUInt32).toInt32) &&& (255 : Int32)); have a_24 := rng32 (((j7.toUInt32 >>> ((2 : Int32) &&& 31).toUInt32).toInt32) &&& (255 : Int32)); have a_25 := rng32 (((s1.toUInt32 >>> ((10 : Int32) &&& 31).toUInt32).toInt32) &&& (255 : Int32)); have a_26 := rng32 (((s1.toUInt32 >>> ((18 : Int32) &&& 31).toUInt32).toInt32) &&& (255 : Int32)); have a_27 := rng32 (((s1.toUInt32 >>> ((2 : Int32) &&& 31).toUInt32).toInt32) &&& (255 : Int32)); have a_28 := rng32 ((j7.toUInt32 >>> ((10 : Int32) &&& 31).toUInt32).toInt32); have a_29 := rng32 ((j7.toUInt32 >>> ((18 : Int32) &&& 31).toUInt32).toInt32); have a_30 := rng32 ((j7.toUInt32 >>> ((2 : Int32) &&& 31).toUInt32).toInt32); have a_31 := rng32 ((s1.toUInt32 >>> ((10 : Int32) &&& 31).toUInt32).toInt32); have a_32 := rng32 ((s1.toUInt32 >>> ((18 : Int32) &&& 31).toUInt32).toInt32); have a_33 := rng32 ((s1.toUInt32 >>> ((2 : Int32) &&& 31).toUInt32).toInt32); have a_34 := rng32 (md &&& (1 : Int32)); have a_35 := rng32 (md &&& (2 : Int32)); have a_36 := rng32 j7; have a_37 := rng32 md; have a_38 := rng32 s1; have a_39 := rng32 v1; have a_40 := rng32 v10; have a_41 := rng32 v11; have a_42 := rng32 v12; have a_43 := rng32 v2; have a_44 := rng32 v3; have a_45 := rng32 v4; have a_46 := rng32 v9; (try simp only [Int32.lt_iff_toInt_lt, Int64.lt_iff_toInt_lt, ← Int32.toInt_inj, ← Int64.toInt_inj, Int32.reduceToInt, Int64.reduceToInt, eq_self, and_true, true_and, or_true, true_or, and_false, false_and, or_false, false_or, not_true_eq_false, not_false_eq_true] at a_0 a_1 a_2 a_3 a_4 a_5 a_6 a_7 a_8 a_9 a_10 a_11 a_12 a_13 a_14 a_15 a_16 a_17 a_18 a_19 a_20 a_21 a_22 a_23 a_24 a_25 a_26 a_27 a_28 a_29 a_30 a_31 a_32 a_33 a_34 a_35 a_36 a_37 a_38 a_39 a_40 a_41 a_42 a_43 a_44 a_45 a_46 ⊢) <;> omega
  have bd20 : 0 ≤ v10.toInt ∧ v10.toInt ≤ 255 := by have a_0 := c_mask s1 (3 : Int32) 2 (by decide) (by decide); rw [hv_v1] at a_0; have a_1 := c_iushr s1 (2 : Int32) 2 (by decide) (by decide); have a_2 := c_mask ((s1.toUInt32 >>> ((2 : Int32) &&& 31).toUInt32).toInt32) (255 : Int32) 8 (by decide) (by decide); have a_3 := c_i2c (((s1.toUInt32 >>> ((2 : Int32) &&& 31).toUInt32).toInt32) &&& (255 : Int32)); rw [hv_v2] at a_3; have a_4 := c_iushr s1 (10 : Int32) 10 (by decide) (by decide); have a_5 := c_mask ((s1.toUInt32 >>> ((10 : Int32) &&& 31).toUInt32).toInt32) (255 : Int32) 8 (by decide) (by decide); have a_6 := c_i2c (((s1.toUInt32 >>> ((10 : Int32) &&& 31).toUInt32).toInt32) &&& (255 : Int32)); rw [hv_v3] at a_6; have a_7 := c_iushr s1 (18 : Int32) 18 (by decide) (by decide); have a_8 := c_mask ((s1.toUInt32 >>> ((18 : Int32) &&& 31).toUInt32).toInt32) (255 : Int32) 8 (by decide) (by decide); have a_9 := c_i2c (((s1.toUInt32 >>> ((18 : Int32) &&& 31).toUInt32).toInt32) &&& (255 : Int32)); rw [hv_v4] at a_9; have a_10 := c_mask md (1 : Int32) 1 (by decide) (by decide); have a_11 := c_mask j7 (3 : Int32) 2 (by decide) (by decide); rw [hv_v9] at a_11; have a_12 := c_iushr j7 (2 : Int32) 2 (by decide) (by decide); have a_13 := c_mask ((j7.toUInt32 >>> ((2 : Int32) &&& 31).toUInt32).toInt32) (255 : Int32) 8 (by decide) (by decide); have a_14 := c_i2c (((j7.toUInt32 >>> ((2 : Int32) &&& 31).toUInt32).toInt32) &&& (255 : Int32)); rw [hv_v10] at a_14; have a_15 := c_iushr j7 (10 : Int32) 10 (by decide) (by decide); have a_16 := c_mask ((j7.toUInt32 >>> ((10 : Int32) &&& 31).toUInt32).toInt32) (255 : Int32) 8 (by decide) (by decide); have a_17 := c_i2c (((j7.toUInt32 >>> ((10 : Int32) &&& 31).toUInt32).toInt32) &&& (255 : Int32)); rw [hv_v11] at a_17; have a_18 := c_iushr j7 (18 : Int32) 18 (by decide) (by decide); have a_19 := c_mask ((j7.toUInt32 >>> ((18 : Int32) &&& 31).toUInt32).toInt32) (255 : Int32) 8 (by decide) (by decide); have a_20 := c_i2c (((j7.toUInt32 >>> ((18 : Int32) &&& 31).toUInt32).toInt32) &&& (255 : Int32)); rw [hv_v12] at a_20; have a_21 := c_and md (2 : Int32) (by decide); have a_22 := rng32 (((j7.toUInt32 >>> ((10 : Int32) &&& 31).toUInt32).toInt32) &&& (255 : Int32)); have a_23 := rng32 (((j7.toUInt32 >>> ((18 : Int32) &&& 31).toUInt32).toInt32) &&& (255 : Int32)); have a_24 := rng32 (((j7.toUInt32 >>> ((2 : Int32) &&& 31).toUInt32).toInt32) &&& (255 : Int32)); have a_25 := rng32 (((s1.toUInt32 >>> ((10 : Int32) &&& 31).toUInt32).toInt32) &&& (255 : Int32)); have a_26 := rng32 (((s1.toUInt32 >>> ((18 : Int32) &&& 31).toUInt32).toInt32) &&& (255 : Int32)); have a_27 := rng32 (((s1.toUInt32 >>> ((2 : Int32) &&& 31).toUInt32).toInt32) &&& (255 : Int32)); have a_28 := rng32 ((j7.toUInt32 >>> ((10 : Int32) &&& 31).toUInt32).toInt32); have a_29 := rng32 ((j7.toUInt32 >>> ((18 : Int32) &&& 31).toUInt32).toInt32); have a_30 := rng32 ((j7.toUInt32 >>> ((2 : Int32) &&& 31).toUInt32).toInt32); have a_31 := rng32 ((s1.toUInt32 >>> ((10 : Int32) &&& 31).toUInt32).toInt32); have a_32 := rng32 ((s1.toUInt32 >>> ((18 : Int32) &&& 31).toUInt32).toInt32); have a_33 := rng32 ((s1.toUInt32 >>> ((2 : Int32) &&& 31).toUInt32).toInt32); have a_34 := rng32 (md &&& (1 : Int32)); have a_35 := rng32 (md &&& (2 : Int32)); have a_36 := rng32 j7; have a_37 := rng32 md; have a_38 := rng32 s1; have a_39 := rng32 v1; have a_40 := rng32 v10; have a_41 := rng32 v11; have a_42 := rng32 v12; have a_43 := rng32 v2; have a_44 := rng32 v3; have a_45 := rng32 v4; have a_46 := rng32 v9; (try simp only [Int32.lt_iff_toInt_lt, Int64.lt_iff_toInt_lt, ← Int32.toInt_inj, ← Int64.toInt_inj, Int32.reduceToInt, Int64.reduceToInt, eq_self, and_true, true_and, or_true, true_or, and_false, false_and, or_false, false_or, not_true_eq_false, not_false_eq_true] at a_0 a_1 a_2 a_3 a_4 a_5 a_6 a_7 a_8 a_9 a_10 a_11 a_12 a_13 a_14 a_15 a_16 a_17 a_18 a_19 a_20 a_21 a_22 a_23 a_24 a_25 a_26 a_27 a_28 a_29 a_30 a_31 a_32 a_33 a_34 a_35 a_36 a_37 a_38 a_39 a_40 a_41 a_42 a_43 a_44 a_45 a_46 ⊢) <;> omega
  have bd21 : 0 ≤ v11.toInt ∧ v11.toInt ≤ 255 := by have a_0 := c_mask s1 (3 : Int32) 2 (by decide) (by decide); rw [hv_v1] at a_0; have a_1 := c_iushr s1 (2 : Int32) 2 (by decide) (by decide); have a_2 := c_mask ((s1.toUInt32 >>> ((2 : Int32) &&& 31).toUInt32).toInt32) (255 : Int32) 8 (by decide) (by decide); have a_3 := c_i2c (((s1.toUInt32 >>> ((2 : Int32) &&& 31).toUInt32).toInt32) &&& (255 : Int32)); rw [hv_v2] at a_3; have a_4 := c_iushr s1 (10 : Int32) 10 (by decide) (by decide); have a_5 := c_mask ((s1.toUInt32 >>> ((10 : Int32) &&& 31).toUInt32).toInt32) (255 : Int32) 8 (by decide) (by decide); have a_6 := c_i2c (((s1.toUInt32 >>> ((10 : Int32) &&& 31).toUInt32).toInt32) &&& (255 : Int32)); rw [hv_v3] at a_6; have a_7 := c_iushr s1 (18 : Int32) 18 (by decide) (by decide); have a_8 := c_mask ((s1.toUInt32 >>> ((18 : Int32) &&& 31).toUInt32).toInt32) (255 : Int32) 8 (by decide) (by decide); have a_9 := c_i2c (((s1.toUInt32 >>> ((18 : Int32) &&& 31).toUInt32).toInt32) &&& (255 : Int32)); rw [hv_v4] at a_9; have a_10 := c_mask md (1 : Int32) 1 (by decide) (by decide); have a_11 := c_mask j7 (3 : Int32) 2 (by decide) (by decide); rw [hv_v9] at a_11; have a_12 := c_iushr j7 (2 : Int32) 2 (by decide) (by decide); have a_13 := c_mask ((j7.toUInt32 >>> ((2 : Int32) &&& 31).toUInt32).toInt32) (255 : Int32) 8 (by decide) (by decide); have a_14 := c_i2c (((j7.toUInt32 >>> ((2 : Int32) &&& 31).toUInt32).toInt32) &&& (255 : Int32)); rw [hv_v10] at a_14; have a_15 := c_iushr j7 (10 : Int32) 10 (by decide) (by decide); have a_16 := c_mask ((j7.toUInt32 >>> ((10 : Int32) &&& 31).toUInt32).toInt32) (255 : Int32) 8 (by decide) (by decide); have a_17 := c_i2c (((j7.toUInt32 >>> ((10 : Int32) &&& 31).toUInt32).toInt32) &&& (255 : Int32)); rw [hv_v11] at a_17; have a_18 := c_iushr j7 (18 : Int32) 18 (by decide) (by decide); have a_19 := c_mask ((j7.toUInt32 >>> ((18 : Int32) &&& 31).toUInt32).toInt32) (255 : Int32) 8 (by decide) (by decide); have a_20 := c_i2c (((j7.toUInt32 >>> ((18 : Int32) &&& 31).toUInt32).toInt32) &&& (255 : Int32)); rw [hv_v12] at a_20; have a_21 := c_and md (2 : Int32) (by decide); have a_22 := rng32 (((j7.toUInt32 >>> ((10 : Int32) &&& 31).toUInt32).toInt32) &&& (255 : Int32)); have a_23 := rng32 (((j7.toUInt32 >>> ((18 : Int32) &&& 31).toUInt32).toInt32) &&& (255 : Int32)); have a_24 := rng32 (((j7.toUInt32 >>> ((2 : Int32) &&& 31).toUInt32).toInt32) &&& (255 : Int32)); have a_25 := rng32 (((s1.toUInt32 >>> ((10 : Int32) &&& 31).toUInt32).toInt32) &&& (255 : Int32)); have a_26 := rng32 (((s1.toUInt32 >>> ((18 : Int32) &&& 31).toUInt32).toInt32) &&& (255 : Int32)); have a_27 := rng32 (((s1.toUInt32 >>> ((2 : Int32) &&& 31).toUInt32).toInt32) &&& (255 : Int32)); have a_28 := rng32 ((j7.toUInt32 >>> ((10 : Int32) &&& 31).toUInt32).toInt32); have a_29 := rng32 ((j7.toUInt32 >>> ((18 : Int32) &&& 31).toUInt32).toInt32); have a_30 := rng32 ((j7.toUInt32 >>> ((2 : Int32) &&& 31).toUInt32).toInt32); have a_31 := rng32 ((s1.toUInt32 >>> ((10 : Int32) &&& 31).toUInt32).toInt32); have a_32 := rng32 ((s1.toUInt32 >>> ((18 : Int32) &&& 31).toUInt32).toInt32); have a_33 := rng32 ((s1.toUInt32 >>> ((2 : Int32) &&& 31).toUInt32).toInt32); have a_34 := rng32 (md &&& (1 : Int32)); have a_35 := rng32 (md &&& (2 : Int32)); have a_36 := rng32 j7; have a_37 := rng32 md; have a_38 := rng32 s1; have a_39 := rng32 v1; have a_40 := rng32 v10; have a_41 := rng32 v11; have a_42 := rng32 v12; have a_43 := rng32 v2; have a_44 := rng32 v3; have a_45 := rng32 v4; have a_46 := rng32 v9; (try simp only [Int32.lt_iff_toInt_lt, Int64.lt_iff_toInt_lt, ← Int32.toInt_inj, ← Int64.toInt_inj, Int32.reduceToInt, Int64.reduceToInt, eq_self, and_true, true_and, or_true, true_or, and_false, false_and, or_false, false_or, not_true_eq_false, not_false_eq_true] at a_0 a_1 a_2 a_3 a_4 a_5 a_6 a_7 a_8 a_9 a_10 a_11 a_12 a_13 a_14 a_15 a_16 a_17 a_18 a_19 a_20 a_21 a_22 a_23 a_24 a_25 a_26 a_27 a_28 a_29 a_30 a_31 a_32 a_33 a_34 a_35 a_36 a_37 a_38 a_39 a_40 a_41 a_42 a_43 a_44 a_45 a_46 ⊢) <;> omega
  have bd22 : 0 ≤ v12.toInt ∧ v12.toInt ≤ 255 := by have a_0 := c_mask s1 (3 : Int32) 2 (by decide) (by decide); rw [hv_v1] at a_0; have a_1 := c_iushr s1 (2 : Int32) 2 (by decide) (by decide); have a_2 := c_mask ((s1.toUInt32 >>> ((2 : Int32) &&& 31).toUInt32).toInt32) (255 : Int32) 8 (by decide) (by decide); have a_3 := c_i2c (((s1.toUInt32 >>> ((2 : Int32) &&& 31).toUInt32).toInt32) &&& (255 : Int32)); rw [hv_v2] at a_3; have a_4 := c_iushr s1 (10 : Int32) 10 (by decide) (by decide); have a_5 := c_mask ((s1.toUInt32 >>> ((10 : Int32) &&& 31).toUInt32).toInt32) (255 : Int32) 8 (by decide) (by decide); have a_6 := c_i2c (((s1.toUInt32 >>> ((10 : Int32) &&& 31).toUInt32).toInt32) &&& (255 : Int32)); rw [hv_v3] at a_6; have a_7 := c_iushr s1 (18 : Int32) 18 (by decide) (by decide); have a_8 := c_mask ((s1.toUInt32 >>> ((18 : Int32) &&& 31).toUInt32).toInt32) (255 : Int32) 8 (by decide) (by decide); have a_9 := c_i2c (((s1.toUInt32 >>> ((18 : Int32) &&& 31).toUInt32).toInt32) &&& (255 : Int32)); rw [hv_v4] at a_9; have a_10 := c_mask md (1 : Int32) 1 (by decide) (by decide); have a_11 := c_mask j7 (3 : Int32) 2 (by decide) (by decide); rw [hv_v9] at a_11; have a_12 := c_iushr j7 (2 : Int32) 2 (by decide) (by decide); have a_13 := c_mask ((j7.toUInt32 >>> ((2 : Int32) &&& 31).toUInt32).toInt32) (255 : Int32) 8 (by decide) (by decide); have a_14 := c_i2c (((j7.toUInt32 >>> ((2 : Int32) &&& 31).toUInt32).toInt32) &&& (255 : Int32)); rw [hv_v10] at a_14; have a_15 := c_iushr j7 (10 : Int32) 10 (by decide) (by decide); have a_16 := c_mask ((j7.toUInt32 >>> ((10 : Int32) &&& 31).toUInt32).toInt32) (255 : Int32) 8 (by decide) (by decide); have a_17 := c_i2c (((j7.toUInt32 >>> ((10 : Int32) &&& 31).toUInt32).toInt32) &&& (255 : Int32)); rw [hv_v11] at a_17; have a_18 := c_iushr j7 (18 : Int32) 18 (by decide) (by decide); have a_19 := c_mask ((j7.toUInt32 >>> ((18 : Int32) &&& 31).toUInt32).toInt32) (255 : Int32) 8 (by decide) (by decide); have a_20 := c_i2c (((j7.toUInt32 >>> ((18 : Int32) &&& 31).toUInt32).toInt32) &&& (255 : Int32)); rw [hv_v12] at a_20; have a_21 := c_and md (2 : Int32) (by decide); have a_22 := rng32 (((j7.toUInt32 >>> ((10 : Int32) &&& 31).toUInt32).toInt32) &&& (255 : Int32)); have a_23 := rng32 (((j7.toUInt32 >>> ((18 : Int32) &&& 31).toUInt32).toInt32) &&& (255 : Int32)); have a_24 := rng32 (((j7.toUInt32 >>> ((2 : Int32) &&& 31).toUInt32).toInt32) &&& (255 : Int32)); have a_25 := rng32 (((s1.toUInt32 >>> ((10 : Int32) &&& 31).toUInt32).toInt32) &&& (255 : Int32)); have a_26 := rng32 (((s1.toUInt32 >>> ((18 : Int32) &&& 31).toUInt32).toInt32) &&& (255 : Int32)); have a_27 := rng32 (((s1.toUInt32 >>> ((2 : Int32) &&& 31).toUInt32).toInt32) &&& (255 : Int32)); have a_28 := rng32 ((j7.toUInt32 >>> ((10 : Int32) &&& 31).toUInt32).toInt32); have a_29 := rng32 ((j7.toUInt32 >>> ((18 : Int32) &&& 31).toUInt32).toInt32); have a_30 := rng32 ((j7.toUInt32 >>> ((2 : Int32) &&& 31).toUInt32).toInt32); have a_31 := rng32 ((s1.toUInt32 >>> ((10 : Int32) &&& 31).toUInt32).toInt32); have a_32 := rng32 ((s1.toUInt32 >>> ((18 : Int32) &&& 31).toUInt32).toInt32); have a_33 := rng32 ((s1.toUInt32 >>> ((2 : Int32) &&& 31).toUInt32).toInt32); have a_34 := rng32 (md &&& (1 : Int32)); have a_35 := rng32 (md &&& (2 : Int32)); have a_36 := rng32 j7; have a_37 := rng32 md; have a_38 := rng32 s1; have a_39 := rng32 v1; have a_40 := rng32 v10; have a_41 := rng32 v11; have a_42 := rng32 v12; have a_43 := rng32 v2; have a_44 := rng32 v3; have a_45 := rng32 v4; have a_46 := rng32 v9; (try simp only [Int32.lt_iff_toInt_lt, Int64.lt_iff_toInt_lt, ← Int32.toInt_inj, ← Int64.toInt_inj, Int32.reduceToInt, Int64.reduceToInt, eq_self, and_true, true_and, or_true, true_or, and_false, false_and, or_false, false_or, not_true_eq_false, not_false_eq_true] at a_0 a_1 a_2 a_3 a_4 a_5 a_6 a_7 a_8 a_9 a_10 a_11 a_12 a_13 a_14 a_15 a_16 a_17 a_18 a_19 a_20 a_21 a_22 a_23 a_24 a_25 a_26 a_27 a_28 a_29 a_30 a_31 a_32 a_33 a_34 a_35 a_36 a_37 a_38 a_39 a_40 a_41 a_42 a_43 a_44 a_45 a_46 ⊢) <;> omega
  have bd23 : 0 ≤ v1.toInt ∧ v1.toInt ≤ 3 := by have a_0 := c_mask s1 (3 : Int32) 2 (by decide) (by decide); rw [hv_v1] at a_0; have a_1 := c_iushr s1 (2 : Int32) 2 (by decide) (by decide); have a_2 := c_mask ((s1.toUInt32 >>> ((2 : Int32) &&& 31).toUInt32).toInt32) (255 : Int32) 8 (by decide) (by decide); have a_3 := c_i2c (((s1.toUInt32 >>> ((2 : Int32) &&& 31).toUInt32).toInt32) &&& (255 : Int32)); rw [hv_v2] at a_3; have a_4 := c_iushr s1 (10 : Int32) 10 (by decide) (by decide); have a_5 := c_mask ((s1.toUInt32 >>> ((10 : Int32) &&& 31).toUInt32).toInt32) (255 : Int32) 8 (by decide) (by decide); have a_6 := c_i2c (((s1.toUInt32 >>> ((10 : Int32) &&& 31).toUInt32).toInt32) &&& (255 : Int32)); rw [hv_v3] at a_6; have a_7 := c_iushr s1 (18 : Int32) 18 (by decide) (by decide); have a_8 := c_mask ((s1.toUInt32 >>> ((18 : Int32) &&& 31).toUInt32).toInt32) (255 : Int32) 8 (by decide) (by decide); have a_9 := c_i2c (((s1.toUInt32 >>> ((18 : Int32) &&& 31).toUInt32).toInt32) &&& (255 : Int32)); rw [hv_v4] at a_9; have a_10 := c_mask md (1 : Int32) 1 (by decide) (by decide); have a_11 := c_mask j7 (3 : Int32) 2 (by decide) (by decide); rw [hv_v9] at a_11; have a_12 := c_iushr j7 (2 : Int32) 2 (by decide) (by decide); have a_13 := c_mask ((j7.toUInt32 >>> ((2 : Int32) &&& 31).toUInt32).toInt32) (255 : Int32) 8 (by decide) (by decide); have a_14 := c_i2c (((j7.toUInt32 >>> ((2 : Int32) &&& 31).toUInt32).toInt32) &&& (255 : Int32)); rw [hv_v10] at a_14; have a_15 := c_iushr j7 (10 : Int32) 10 (by decide) (by decide); have a_16 := c_mask ((j7.toUInt32 >>> ((10 : Int32) &&& 31).toUInt32).toInt32) (255 : Int32) 8 (by decide) (by decide); have a_17 := c_i2c (((j7.toUInt32 >>> ((10 : Int32) &&& 31).toUInt32).toInt32) &&& (255 : Int32)); rw [hv_v11] at a_17; have a_18 := c_iushr j7 (18 : Int32) 18 (by decide) (by decide); have a_19 := c_mask ((j7.toUInt32 >>> ((18 : Int32) &&& 31).toUInt32).toInt32) (255 : Int32) 8 (by decide) (by decide); have a_20 := c_i2c (((j7.toUInt32 >>> ((18 : Int32) &&& 31).toUInt32).toInt32) &&& (255 : Int32)); rw [hv_v12] at a_20; have a_21 := c_and md (2 : Int32) (by decide); have a_22 := rng32 (((j7.toUInt32 >>> ((10 : Int32) &&& 31).toUInt32).toInt32) &&& (255 : Int32)); have a_23 := rng32 (((j7.toUInt32 >>> ((18 : Int32) &&& 31).toUInt32).toInt32) &&& (255 : Int32)); have a_24 := rng32 (((j7.toUInt32 >>> ((2 : Int32) &&& 31).toUInt32).toInt32) &&& (255 : Int32)); have a_25 := rng32 (((s1.toUInt32 >>> ((10 : Int32) &&& 31).toUInt32).toInt32) &&& (255 : Int32)); have a_26 := rng32 (((s1.toUInt32 >>> ((18 : Int32) &&& 31).toUInt32).toInt32) &&& (255 : Int32)); have a_27 := rng32 (((s1.toUInt32 >>> ((2 : Int32) &&& 31).toUInt32).toInt32) &&& (255 : Int32)); have a_28 := rng32 ((j7.toUInt32 >>> ((10 : Int32) &&& 31).toUInt32).toInt32); have a_29 := rng32 ((j7.toUInt32 >>> ((18 : Int32) &&& 31).toUInt32).toInt32); have a_30 := rng32 ((j7.toUInt32 >>> ((2 : Int32) &&& 31).toUInt32).toInt32); have a_31 := rng32 ((s1.toUInt32 >>> ((10 : Int32) &&& 31).toUInt32).toInt32); have a_32 := rng32 ((s1.toUInt32 >>> ((18 : Int32) &&& 31).toUInt32).toInt32); have a_33 := rng32 ((s1.toUInt32 >>> ((2 : Int32) &&& 31).toUInt32).toInt32); have a_34 := rng32 (md &&& (1 : Int32)); have a_35 := rng32 (md &&& (2 : Int32)); have a_36 := rng32 j7; have a_37 := rng32 md; have a_38 := rng32 s1; have a_39 := rng32 v1; have a_40 := rng32 v10; have a_41 := rng32 v11; have a_42 := rng32 v12; have a_43 := rng32 v2; have a_44 := rng32 v3; have a_45 := rng32 v4; have a_46 := rng32 v9; (try simp only [Int32.lt_iff_toInt_lt, Int64.lt_iff_toInt_lt, ← Int32.toInt_inj, ← Int64.toInt_inj, Int32.reduceToInt, Int64.reduceToInt, eq_self, and_true, true_and, or_true, true_or, and_false, false_and, or_false, false_or, not_true_eq_false, not_false_eq_true] at a_0 a_1 a_2 a_3 a_4 a_5 a_6 a_7 a_8 a_9 a_10 a_11 a_12 a_13 a_14 a_15 a_16 a_17 a_18 a_19 a_20 a_21 a_22 a_23 a_24 a_25 a_26 a_27 a_28 a_29 a_30 a_31 a_32 a_33 a_34 a_35 a_36 a_37 a_38 a_39 a_40 a_41 a_42 a_43 a_44 a_45 a_46 ⊢) <;> omega
  have bd24 : 0 ≤ v9.toInt ∧ v9.toInt ≤ 3 := by have a_0 := c_mask s1 (3 : Int32) 2 (by decide) (by decide); rw [hv_v1] at a_0; have a_1 := c_iushr s1 (2 : Int32) 2 (by decide) (by decide); have a_2 := c_mask ((s1.toUInt32 >>> ((2 : Int32) &&& 31).toUInt32).toInt32) (255 : Int32) 8 (by decide) (by decide); have a_3 := c_i2c (((s1.toUInt32 >>> ((2 : Int32) &&& 31).toUInt32).toInt32) &&& (255 : Int32)); rw [hv_v2] at a_3; have a_4 := c_iushr s1 (10 : Int32) 10 (by decide) (by decide); have a_5 := c_mask ((s1.toUInt32 >>> ((10 : Int32) &&& 31).toUInt32).toInt32) (255 : Int32) 8 (by decide) (by decide); have a_6 := c_i2c (((s1.toUInt32 >>> ((10 : Int32) &&& 31).toUInt32).toInt32) &&& (255 : Int32)); rw [hv_v3] at a_6; have a_7 := c_iushr s1 (18 : Int32) 18 (by decide) (by decide); have a_8 := c_mask ((s1.toUInt32 >>> ((18 : Int32) &&& 31).toUInt32).toInt32) (255 : Int32) 8 (by decide) (by decide); have a_9 := c_i2c (((s1.toUInt32 >>> ((18 : Int32) &&& 31).toUInt32).toInt32) &&& (255 : Int32)); rw [hv_v4] at a_9; have a_10 := c_mask md (1 : Int32) 1 (by decide) (by decide); have a_11 := c_mask j7 (3 : Int32) 2 (by decide) (by decide); rw [hv_v9] at a_11; have a_12 := c_iushr j7 (2 : Int32) 2 (by decide) (by decide); have a_13 := c_mask ((j7.toUInt32 >>> ((2 : Int32) &&& 31).toUInt32).toInt32) (255 : Int32) 8 (by decide) (by decide); have a_14 := c_i2c (((j7.toUInt32 >>> ((2 : Int32) &&& 31).toUInt32).toInt32) &&& (255 : Int32)); rw [hv_v10] at a_14; have a_15 := c_iushr j7 (10 : Int32) 10 (by decide) (by decide); have a_16 := c_mask ((j7.toUInt32 >>> ((10 : Int32) &&& 31).toUInt32).toInt32) (255 : Int32) 8 (by decide) (by decide); have a_17 := c_i2c (((j7.toUInt32 >>> ((10 : Int32) &&& 31).toUInt32).toInt32) &&& (255 : Int32)); rw [hv_v11] at a_17; have a_18 := c_iushr j7 (18 : Int32) 18 (by decide) (by decide); have a_19 := c_mask ((j7.toUInt32 >>> ((18 : Int32) &&& 31).toUInt32).toInt32) (255 : Int32) 8 (by decide) (by decide); have a_20 := c_i2c (((j7.toUInt32 >>> ((18 : Int32) &&& 31).toUInt32).toInt32) &&& (255 : Int32)); rw [hv_v12] at a_20; have a_21 := c_and md (2 : Int32) (by decide); have a_22 := rng32 (((j7.toUInt32 >>> ((10 : Int32) &&& 31).toUInt32).toInt32) &&& (255 : Int32)); have a_23 := rng32 (((j7.toUInt32 >>> ((18 : Int32) &&& 31).toUInt32).toInt32) &&& (255 : Int32)); have a_24 := rng32 (((j7.toUInt32 >>> ((2 : Int32) &&& 31).toUInt32).toInt32) &&& (255 : Int32)); have a_25 := rng32 (((s1.toUInt32 >>> ((10 : Int32) &&& 31).toUInt32).toInt32) &&& (255 : Int32)); have a_26 := rng32 (((s1.toUInt32 >>> ((18 : Int32) &&& 31).toUInt32).toInt32) &&& (255 : Int32)); have a_27 := rng32 (((s1.toUInt32 >>> ((2 : Int32) &&& 31).toUInt32).toInt32) &&& (255 : Int32)); have a_28 := rng32 ((j7.toUInt32 >>> ((10 : Int32) &&& 31).toUInt32).toInt32); have a_29 := rng32 ((j7.toUInt32 >>> ((18 : Int32) &&& 31).toUInt32).toInt32); have a_30 := rng32 ((j7.toUInt32 >>> ((2 : Int32) &&& 31).toUInt32).toInt32); have a_31 := rng32 ((s1.toUInt32 >>> ((10 : Int32) &&& 31).toUInt32).toInt32); have a_32 := rng32 ((s1.toUInt32 >>> ((18 : Int32) &&& 31).toUInt32).toInt32); have a_33 := rng32 ((s1.toUInt32 >>> ((2 : Int32) &&& 31).toUInt32).toInt32); have a_34 := rng32 (md &&& (1 : Int32)); have a_35 := rng32 (md &&& (2 : Int32)); have a_36 := rng32 j7; have a_37 := rng32 md; have a_38 := rng32 s1; have a_39 := rng32 v1; have a_40 := rng32 v10; have a_41 := rng32 v11; have a_42 := rng32 v12; have a_43 := rng32 v2; have a_44 := rng32 v3; have a_45 := rng32 v4; have a_46 := rng32 v9; (try simp only [Int32.lt_iff_toInt_lt, Int64.lt_iff_toInt_lt, ← Int32.toInt_inj, ← Int64.toInt_inj, Int32.reduceToInt, Int64.reduceToInt, eq_self, and_true, true_and, or_true, true_or, and_false, false_and, or_false, false_or, not_true_eq_false, not_false_eq_true] at a_0 a_1 a_2 a_3 a_4 a_5 a_6 a_7 a_8 a_9 a_10 a_11 a_12 a_13 a_14 a_15 a_16 a_17 a_18 a_19 a_20 a_21 a_22 a_23 a_24 a_25 a_26 a_27 a_28 a_29 a_30 a_31 a_32 a_33 a_34 a_35 a_36 a_37 a_38 a_39 a_40 a_41 a_42 a_43 a_44 a_45 a_46 ⊢) <;> omega
  show Comes p e below _ (T16.setTop (mkF m 107 #[.val (.int s1), .val (.int s2), .val (.long c1), .second, .val (.long c2), .second, .val (.int md), .val (.int v1), .val (.int v2), .val (.int v3), .val (.int v4), .val (.int j7), .val (.int v9), .val (.int v10), .val (.int v11), .val (.int v12), .val (.long j15), .second, .unset, .unset, .unset, .unset, .unset, .unset] []))
  refine Comes.st (fun t k => XS.iload X16.here hx rfl (hb hby at_107) rfl (XS.iload X16.here hx rfl (hb hby at_109) rfl (XS.iload X16.here hx rfl (hb hby at_111) rfl (XS.iload X16.here hx rfl (hb hby at_113) rfl k)))) ?_
  show Comes p e below _ (T16.setTop (mkF m 115 #[.val (.int s1), .val (.int s2), .val (.long c1), .second, .val (.long c2), .second, .val (.int md), .val (.int v1), .val (.int v2), .val (.int v3), .val (.int v4), .val (.int j7), .val (.int v9), .val (.int v10), .val (.int v11), .val (.int v12), .val (.long j15), .second, .unset, .unset, .unset, .unset, .unset, .unset] [(.int v4), (.int v3), (.int v2), (.int v1)]))
  obtain ⟨_, _, ⟨T25, L25, k25, n25⟩, -, X25, hSc25, hgr25, ⟨Lc25, hQ25, l25, y25, z25, Ca25⟩, st25⟩ := callSS X16 hx (y := (⟨"com/example/soft_throttle/softthrottle/usage/RequestCountEqualsPinLaw", "mk", "(ICCC)Ljava/lang/String;"⟩ : MethodName)) hown (mvT hZ (hw _ (List.mem_of_getElem? (i := 0) rfl))) (mvT hZ (hw _ (List.mem_of_getElem? (i := 1) rfl))) (mvT hZ (hw _ (List.mem_of_getElem? (i := 2) rfl))) (mvT hZ (hw _ (List.mem_of_getElem? (i := 3) rfl))) (by decide) (backOfSH (W := 0) (mkG l Z a0 hw [] v1 v2 v3 v4 cs h0 n0 (by omega)  G0 (by first | assumption | (have a_0 := c_mask s1 (3 : Int32) 2 (by decide) (by decide); rw [hv_v1] at a_0; have a_1 := c_iushr s1 (2 : Int32) 2 (by decide) (by decide); have a_2 := c_mask ((s1.toUInt32 >>> ((2 : Int32) &&& 31).toUInt32).toInt32) (255 : Int32) 8 (by decide) (by decide); have a_3 := c_i2c (((s1.toUInt32 >>> ((2 : Int32) &&& 31).toUInt32).toInt32) &&& (255 : Int32)); rw [hv_v2] at a_3; have a_4 := c_iushr s1 (10 : Int32) 10 (by decide) (by decide); have a_5 := c_mask ((s1.toUInt32 >>> ((10 : Int32) &&& 31).toUInt32).toInt32) (255 : Int32) 8 (by decide) (by decide); have a_6 := c_i2c (((s1.toUInt32 >>> ((10 : Int32) &&& 31).toUInt32).toInt32) &&& (255 : Int32)); rw [hv_v3] at a_6; have a_7 := c_iushr s1 (18 : Int32) 18 (by decide) (by decide); have a_8 := c_mask ((s1.toUInt32 >>> ((18 : Int32) &&& 31).toUInt32).toInt32) (255 : Int32) 8 (by decide) (by decide); have a_9 := c_i2c (((s1.toUInt32 >>> ((18 : Int32) &&& 31).toUInt32).toInt32) &&& (255 : Int32)); rw [hv_v4] at a_9; have a_10 := c_mask md (1 : Int32) 1 (by decide) (by decide); have a_11 := c_mask j7 (3 : Int32) 2 (by decide) (by decide); rw [hv_v9] at a_11; have a_12 := c_iushr j7 (2 : Int32) 2 (by decide) (by decide); have a_13 := c_mask ((j7.toUInt32 >>> ((2 : Int32) &&& 31).toUInt32).toInt32) (255 : Int32) 8 (by decide) (by decide); have a_14 := c_i2c (((j7.toUInt32 >>> ((2 : Int32) &&& 31).toUInt32).toInt32) &&& (255 : Int32)); rw [hv_v10] at a_14; have a_15 := c_iushr j7 (10 : Int32) 10 (by decide) (by decide); have a_16 := c_mask ((j7.toUInt32 >>> ((10 : Int32) &&& 31).toUInt32).toInt32) (255 : Int32) 8 (by decide) (by decide); have a_17 := c_i2c (((j7.toUInt32 >>> ((10 : Int32) &&& 31).toUInt32).toInt32) &&& (255 : Int32)); rw [hv_v11] at a_17; have a_18 := c_iushr j7 (18 : Int32) 18 (by decide) (by decide); have a_19 := c_mask ((j7.toUInt32 >>> ((18 : Int32) &&& 31).toUInt32).toInt32) (255 : Int32) 8 (by decide) (by decide); have a_20 := c_i2c (((j7.toUInt32 >>> ((18 : Int32) &&& 31).toUInt32).toInt32) &&& (255 : Int32)); rw [hv_v12] at a_20; have a_21 := c_and md (2 : Int32) (by decide); have a_22 := rng32 (((j7.toUInt32 >>> ((10 : Int32) &&& 31).toUInt32).toInt32) &&& (255 : Int32)); have a_23 := rng32 (((j7.toUInt32 >>> ((18 : Int32) &&& 31).toUInt32).toInt32) &&& (255 : Int32)); have a_24 := rng32 (((j7.toUInt32 >>> ((2 : Int32) &&& 31).toUInt32).toInt32) &&& (255 : Int32)); have a_25 := rng32 (((s1.toUInt32 >>> ((10 : Int32) &&& 31).toUInt32).toInt32) &&& (255 : Int32)); have a_26 := rng32 (((s1.toUInt32 >>> ((18 : Int32) &&& 31).toUInt32).toInt32) &&& (255 : Int32)); have a_27 := rng32 (((s1.toUInt32 >>> ((2 : Int32) &&& 31).toUInt32).toInt32) &&& (255 : Int32)); have a_28 := rng32 ((j7.toUInt32 >>> ((10 : Int32) &&& 31).toUInt32).toInt32); have a_29 := rng32 ((j7.toUInt32 >>> ((18 : Int32) &&& 31).toUInt32).toInt32); have a_30 := rng32 ((j7.toUInt32 >>> ((2 : Int32) &&& 31).toUInt32).toInt32); have a_31 := rng32 ((s1.toUInt32 >>> ((10 : Int32) &&& 31).toUInt32).toInt32); have a_32 := rng32 ((s1.toUInt32 >>> ((18 : Int32) &&& 31).toUInt32).toInt32); have a_33 := rng32 ((s1.toUInt32 >>> ((2 : Int32) &&& 31).toUInt32).toInt32); have a_34 := rng32 (md &&& (1 : Int32)); have a_35 := rng32 (md &&& (2 : Int32)); have a_36 := rng32 j7; have a_37 := rng32 md; have a_38 := rng32 s1; have a_39 := rng32 v1; have a_40 := rng32 v10; have a_41 := rng32 v11; have a_42 := rng32 v12; have a_43 := rng32 v2; have a_44 := rng32 v3; have a_45 := rng32 v4; have a_46 := rng32 v9; (try simp only [Int32.lt_iff_toInt_lt, Int64.lt_iff_toInt_lt, ← Int32.toInt_inj, ← Int64.toInt_inj, Int32.reduceToInt, Int64.reduceToInt, eq_self, and_true, true_and, or_true, true_or, and_false, false_and, or_false, false_or, not_true_eq_false, not_false_eq_true] at a_0 a_1 a_2 a_3 a_4 a_5 a_6 a_7 a_8 a_9 a_10 a_11 a_12 a_13 a_14 a_15 a_16 a_17 a_18 a_19 a_20 a_21 a_22 a_23 a_24 a_25 a_26 a_27 a_28 a_29 a_30 a_31 a_32 a_33 a_34 a_35 a_36 a_37 a_38 a_39 a_40 a_41 a_42 a_43 a_44 a_45 a_46 ⊢) <;> omega)) G2 (by first | assumption | (have a_0 := c_mask s1 (3 : Int32) 2 (by decide) (by decide); rw [hv_v1] at a_0; have a_1 := c_iushr s1 (2 : Int32) 2 (by decide) (by decide); have a_2 := c_mask ((s1.toUInt32 >>> ((2 : Int32) &&& 31).toUInt32).toInt32) (255 : Int32) 8 (by decide) (by decide); have a_3 := c_i2c (((s1.toUInt32 >>> ((2 : Int32) &&& 31).toUInt32).toInt32) &&& (255 : Int32)); rw [hv_v2] at a_3; have a_4 := c_iushr s1 (10 : Int32) 10 (by decide) (by decide); have a_5 := c_mask ((s1.toUInt32 >>> ((10 : Int32) &&& 31).toUInt32).toInt32) (255 : Int32) 8 (by decide) (by decide); have a_6 := c_i2c (((s1.toUInt32 >>> ((10 : Int32) &&& 31).toUInt32).toInt32) &&& (255 : Int32)); rw [hv_v3] at a_6; have a_7 := c_iushr s1 (18 : Int32) 18 (by decide) (by decide); have a_8 := c_mask ((s1.toUInt32 >>> ((18 : Int32) &&& 31).toUInt32).toInt32) (255 : Int32) 8 (by decide) (by decide); have a_9 := c_i2c (((s1.toUInt32 >>> ((18 : Int32) &&& 31).toUInt32).toInt32) &&& (255 : Int32)); rw [hv_v4] at a_9; have a_10 := c_mask md (1 : Int32) 1 (by decide) (by decide); have a_11 := c_mask j7 (3 : Int32) 2 (by decide) (by decide); rw [hv_v9] at a_11; have a_12 := c_iushr j7 (2 : Int32) 2 (by decide) (by decide); have a_13 := c_mask ((j7.toUInt32 >>> ((2 : Int32) &&& 31).toUInt32).toInt32) (255 : Int32) 8 (by decide) (by decide); have a_14 := c_i2c (((j7.toUInt32 >>> ((2 : Int32) &&& 31).toUInt32).toInt32) &&& (255 : Int32)); rw [hv_v10] at a_14; have a_15 := c_iushr j7 (10 : Int32) 10 (by decide) (by decide); have a_16 := c_mask ((j7.toUInt32 >>> ((10 : Int32) &&& 31).toUInt32).toInt32) (255 : Int32) 8 (by decide) (by decide); have a_17 := c_i2c (((j7.toUInt32 >>> ((10 : Int32) &&& 31).toUInt32).toInt32) &&& (255 : Int32)); rw [hv_v11] at a_17; have a_18 := c_iushr j7 (18 : Int32) 18 (by decide) (by decide); have a_19 := c_mask ((j7.toUInt32 >>> ((18 : Int32) &&& 31).toUInt32).toInt32) (255 : Int32) 8 (by decide) (by decide); have a_20 := c_i2c (((j7.toUInt32 >>> ((18 : Int32) &&& 31).toUInt32).toInt32) &&& (255 : Int32)); rw [hv_v12] at a_20; have a_21 := c_and md (2 : Int32) (by decide); have a_22 := rng32 (((j7.toUInt32 >>> ((10 : Int32) &&& 31).toUInt32).toInt32) &&& (255 : Int32)); have a_23 := rng32 (((j7.toUInt32 >>> ((18 : Int32) &&& 31).toUInt32).toInt32) &&& (255 : Int32)); have a_24 := rng32 (((j7.toUInt32 >>> ((2 : Int32) &&& 31).toUInt32).toInt32) &&& (255 : Int32)); have a_25 := rng32 (((s1.toUInt32 >>> ((10 : Int32) &&& 31).toUInt32).toInt32) &&& (255 : Int32)); have a_26 := rng32 (((s1.toUInt32 >>> ((18 : Int32) &&& 31).toUInt32).toInt32) &&& (255 : Int32)); have a_27 := rng32 (((s1.toUInt32 >>> ((2 : Int32) &&& 31).toUInt32).toInt32) &&& (255 : Int32)); have a_28 := rng32 ((j7.toUInt32 >>> ((10 : Int32) &&& 31).toUInt32).toInt32); have a_29 := rng32 ((j7.toUInt32 >>> ((18 : Int32) &&& 31).toUInt32).toInt32); have a_30 := rng32 ((j7.toUInt32 >>> ((2 : Int32) &&& 31).toUInt32).toInt32); have a_31 := rng32 ((s1.toUInt32 >>> ((10 : Int32) &&& 31).toUInt32).toInt32); have a_32 := rng32 ((s1.toUInt32 >>> ((18 : Int32) &&& 31).toUInt32).toInt32); have a_33 := rng32 ((s1.toUInt32 >>> ((2 : Int32) &&& 31).toUInt32).toInt32); have a_34 := rng32 (md &&& (1 : Int32)); have a_35 := rng32 (md &&& (2 : Int32)); have a_36 := rng32 j7; have a_37 := rng32 md; have a_38 := rng32 s1; have a_39 := rng32 v1; have a_40 := rng32 v10; have a_41 := rng32 v11; have a_42 := rng32 v12; have a_43 := rng32 v2; have a_44 := rng32 v3; have a_45 := rng32 v4; have a_46 := rng32 v9; (try simp only [Int32.lt_iff_toInt_lt, Int64.lt_iff_toInt_lt, ← Int32.toInt_inj, ← Int64.toInt_inj, Int32.reduceToInt, Int64.reduceToInt, eq_self, and_true, true_and, or_true, true_or, and_false, false_and, or_false, false_or, not_true_eq_false, not_false_eq_true] at a_0 a_1 a_2 a_3 a_4 a_5 a_6 a_7 a_8 a_9 a_10 a_11 a_12 a_13 a_14 a_15 a_16 a_17 a_18 a_19 a_20 a_21 a_22 a_23 a_24 a_25 a_26 a_27 a_28 a_29 a_30 a_31 a_32 a_33 a_34 a_35 a_36 a_37 a_38 a_39 a_40 a_41 a_42 a_43 a_44 a_45 a_46 ⊢) <;> omega)) (by first | assumption | (have a_0 := c_mask s1 (3 : Int32) 2 (by decide) (by decide); rw [hv_v1] at a_0; have a_1 := c_iushr s1 (2 : Int32) 2 (by decide) (by decide); have a_2 := c_mask ((s1.toUInt32 >>> ((2 : Int32) &&& 31).toUInt32).toInt32) (255 : Int32) 8 (by decide) (by decide); have a_3 := c_i2c (((s1.toUInt32 >>> ((2 : Int32) &&& 31).toUInt32).toInt32) &&& (255 : Int32)); rw [hv_v2] at a_3; have a_4 := c_iushr s1 (10 : Int32) 10 (by decide) (by decide); have a_5 := c_mask ((s1.toUInt32 >>> ((10 : Int32) &&& 31).toUInt32).toInt32) (255 : Int32) 8 (by decide) (by decide); have a_6 := c_i2c (((s1.toUInt32 >>> ((10 : Int32) &&& 31).toUInt32).toInt32) &&& (255 : Int32)); rw [hv_v3] at a_6; have a_7 := c_iushr s1 (18 : Int32) 18 (by decide) (by decide); have a_8 := c_mask ((s1.toUInt32 >>> ((18 : Int32) &&& 31).toUInt32).toInt32) (255 : Int32) 8 (by decide) (by decide); have a_9 := c_i2c (((s1.toUInt32 >>> ((18 : Int32) &&& 31).toUInt32).toInt32) &&& (255 : Int32)); rw [hv_v4] at a_9; have a_10 := c_mask md (1 : Int32) 1 (by decide) (by decide); have a_11 := c_mask j7 (3 : Int32) 2 (by decide) (by decide); rw [hv_v9] at a_11; have a_12 := c_iushr j7 (2 : Int32) 2 (by decide) (by decide); have a_13 := c_mask ((j7.toUInt32 >>> ((2 : Int32) &&& 31).toUInt32).toInt32) (255 : Int32) 8 (by decide) (by decide); have a_14 := c_i2c (((j7.toUInt32 >>> ((2 : Int32) &&& 31).toUInt32).toInt32) &&& (255 : Int32)); rw [hv_v10] at a_14; have a_15 := c_iushr j7 (10 : Int32) 10 (by decide) (by decide); have a_16 := c_mask ((j7.toUInt32 >>> ((10 : Int32) &&& 31).toUInt32).toInt32) (255 : Int32) 8 (by decide) (by decide); have a_17 := c_i2c (((j7.toUInt32 >>> ((10 : Int32) &&& 31).toUInt32).toInt32) &&& (255 : Int32)); rw [hv_v11] at a_17; have a_18 := c_iushr j7 (18 : Int32) 18 (by decide) (by decide); have a_19 := c_mask ((j7.toUInt32 >>> ((18 : Int32) &&& 31).toUInt32).toInt32) (255 : Int32) 8 (by decide) (by decide); have a_20 := c_i2c (((j7.toUInt32 >>> ((18 : Int32) &&& 31).toUInt32).toInt32) &&& (255 : Int32)); rw [hv_v12] at a_20; have a_21 := c_and md (2 : Int32) (by decide); have a_22 := rng32 (((j7.toUInt32 >>> ((10 : Int32) &&& 31).toUInt32).toInt32) &&& (255 : Int32)); have a_23 := rng32 (((j7.toUInt32 >>> ((18 : Int32) &&& 31).toUInt32).toInt32) &&& (255 : Int32)); have a_24 := rng32 (((j7.toUInt32 >>> ((2 : Int32) &&& 31).toUInt32).toInt32) &&& (255 : Int32)); have a_25 := rng32 (((s1.toUInt32 >>> ((10 : Int32) &&& 31).toUInt32).toInt32) &&& (255 : Int32)); have a_26 := rng32 (((s1.toUInt32 >>> ((18 : Int32) &&& 31).toUInt32).toInt32) &&& (255 : Int32)); have a_27 := rng32 (((s1.toUInt32 >>> ((2 : Int32) &&& 31).toUInt32).toInt32) &&& (255 : Int32)); have a_28 := rng32 ((j7.toUInt32 >>> ((10 : Int32) &&& 31).toUInt32).toInt32); have a_29 := rng32 ((j7.toUInt32 >>> ((18 : Int32) &&& 31).toUInt32).toInt32); have a_30 := rng32 ((j7.toUInt32 >>> ((2 : Int32) &&& 31).toUInt32).toInt32); have a_31 := rng32 ((s1.toUInt32 >>> ((10 : Int32) &&& 31).toUInt32).toInt32); have a_32 := rng32 ((s1.toUInt32 >>> ((18 : Int32) &&& 31).toUInt32).toInt32); have a_33 := rng32 ((s1.toUInt32 >>> ((2 : Int32) &&& 31).toUInt32).toInt32); have a_34 := rng32 (md &&& (1 : Int32)); have a_35 := rng32 (md &&& (2 : Int32)); have a_36 := rng32 j7; have a_37 := rng32 md; have a_38 := rng32 s1; have a_39 := rng32 v1; have a_40 := rng32 v10; have a_41 := rng32 v11; have a_42 := rng32 v12; have a_43 := rng32 v2; have a_44 := rng32 v3; have a_45 := rng32 v4; have a_46 := rng32 v9; (try simp only [Int32.lt_iff_toInt_lt, Int64.lt_iff_toInt_lt, ← Int32.toInt_inj, ← Int64.toInt_inj, Int32.reduceToInt, Int64.reduceToInt, eq_self, and_true, true_and, or_true, true_or, and_false, false_and, or_false, false_or, not_true_eq_false, not_false_eq_true] at a_0 a_1 a_2 a_3 a_4 a_5 a_6 a_7 a_8 a_9 a_10 a_11 a_12 a_13 a_14 a_15 a_16 a_17 a_18 a_19 a_20 a_21 a_22 a_23 a_24 a_25 a_26 a_27 a_28 a_29 a_30 a_31 a_32 a_33 a_34 a_35 a_36 a_37 a_38 a_39 a_40 a_41 a_42 a_43 a_44 a_45 a_46 ⊢) <;> omega)) (by first | assumption | (have a_0 := c_mask s1 (3 : Int32) 2 (by decide) (by decide); rw [hv_v1] at a_0; have a_1 := c_iushr s1 (2 : Int32) 2 (by decide) (by decide); have a_2 := c_mask ((s1.toUInt32 >>> ((2 : Int32) &&& 31).toUInt32).toInt32) (255 : Int32) 8 (by decide) (by decide); have a_3 := c_i2c (((s1.toUInt32 >>> ((2 : Int32) &&& 31).toUInt32).toInt32) &&& (255 : Int32)); rw [hv_v2] at a_3; have a_4 := c_iushr s1 (10 : Int32) 10 (by decide) (by decide); have a_5 := c_mask ((s1.toUInt32 >>> ((10 : Int32) &&& 31).toUInt32).toInt32) (255 : Int32) 8 (by decide) (by decide); have a_6 := c_i2c (((s1.toUInt32 >>> ((10 : Int32) &&& 31).toUInt32).toInt32) &&& (255 : Int32)); rw [hv_v3] at a_6; have a_7 := c_iushr s1 (18 : Int32) 18 (by decide) (by decide); have a_8 := c_mask ((s1.toUInt32 >>> ((18 : Int32) &&& 31).toUInt32).toInt32) (255 : Int32) 8 (by decide) (by decide); have a_9 := c_i2c (((s1.toUInt32 >>> ((18 : Int32) &&& 31).toUInt32).toInt32) &&& (255 : Int32)); rw [hv_v4] at a_9; have a_10 := c_mask md (1 : Int32) 1 (by decide) (by decide); have a_11 := c_mask j7 (3 : Int32) 2 (by decide) (by decide); rw [hv_v9] at a_11; have a_12 := c_iushr j7 (2 : Int32) 2 (by decide) (by decide); have a_13 := c_mask ((j7.toUInt32 >>> ((2 : Int32) &&& 31).toUInt32).toInt32) (255 : Int32) 8 (by decide) (by decide); have a_14 := c_i2c (((j7.toUInt32 >>> ((2 : Int32) &&& 31).toUInt32).toInt32) &&& (255 : Int32)); rw [hv_v10] at a_14; have a_15 := c_iushr j7 (10 : Int32) 10 (by decide) (by decide); have a_16 := c_mask ((j7.toUInt32 >>> ((10 : Int32) &&& 31).toUInt32).toInt32) (255 : Int32) 8 (by decide) (by decide); have a_17 := c_i2c (((j7.toUInt32 >>> ((10 : Int32) &&& 31).toUInt32).toInt32) &&& (255 : Int32)); rw [hv_v11] at a_17; have a_18 := c_iushr j7 (18 : Int32) 18 (by decide) (by decide); have a_19 := c_mask ((j7.toUInt32 >>> ((18 : Int32) &&& 31).toUInt32).toInt32) (255 : Int32) 8 (by decide) (by decide); have a_20 := c_i2c (((j7.toUInt32 >>> ((18 : Int32) &&& 31).toUInt32).toInt32) &&& (255 : Int32)); rw [hv_v12] at a_20; have a_21 := c_and md (2 : Int32) (by decide); have a_22 := rng32 (((j7.toUInt32 >>> ((10 : Int32) &&& 31).toUInt32).toInt32) &&& (255 : Int32)); have a_23 := rng32 (((j7.toUInt32 >>> ((18 : Int32) &&& 31).toUInt32).toInt32) &&& (255 : Int32)); have a_24 := rng32 (((j7.toUInt32 >>> ((2 : Int32) &&& 31).toUInt32).toInt32) &&& (255 : Int32)); have a_25 := rng32 (((s1.toUInt32 >>> ((10 : Int32) &&& 31).toUInt32).toInt32) &&& (255 : Int32)); have a_26 := rng32 (((s1.toUInt32 >>> ((18 : Int32) &&& 31).toUInt32).toInt32) &&& (255 : Int32)); have a_27 := rng32 (((s1.toUInt32 >>> ((2 : Int32) &&& 31).toUInt32).toInt32) &&& (255 : Int32)); have a_28 := rng32 ((j7.toUInt32 >>> ((10 : Int32) &&& 31).toUInt32).toInt32); have a_29 := rng32 ((j7.toUInt32 >>> ((18 : Int32) &&& 31).toUInt32).toInt32); have a_30 := rng32 ((j7.toUInt32 >>> ((2 : Int32) &&& 31).toUInt32).toInt32); have a_31 := rng32 ((s1.toUInt32 >>> ((10 : Int32) &&& 31).toUInt32).toInt32); have a_32 := rng32 ((s1.toUInt32 >>> ((18 : Int32) &&& 31).toUInt32).toInt32); have a_33 := rng32 ((s1.toUInt32 >>> ((2 : Int32) &&& 31).toUInt32).toInt32); have a_34 := rng32 (md &&& (1 : Int32)); have a_35 := rng32 (md &&& (2 : Int32)); have a_36 := rng32 j7; have a_37 := rng32 md; have a_38 := rng32 s1; have a_39 := rng32 v1; have a_40 := rng32 v10; have a_41 := rng32 v11; have a_42 := rng32 v12; have a_43 := rng32 v2; have a_44 := rng32 v3; have a_45 := rng32 v4; have a_46 := rng32 v9; (try simp only [Int32.lt_iff_toInt_lt, Int64.lt_iff_toInt_lt, ← Int32.toInt_inj, ← Int64.toInt_inj, Int32.reduceToInt, Int64.reduceToInt, eq_self, and_true, true_and, or_true, true_or, and_false, false_and, or_false, false_or, not_true_eq_false, not_false_eq_true] at a_0 a_1 a_2 a_3 a_4 a_5 a_6 a_7 a_8 a_9 a_10 a_11 a_12 a_13 a_14 a_15 a_16 a_17 a_18 a_19 a_20 a_21 a_22 a_23 a_24 a_25 a_26 a_27 a_28 a_29 a_30 a_31 a_32 a_33 a_34 a_35 a_36 a_37 a_38 a_39 a_40 a_41 a_42 a_43 a_44 a_45 a_46 ⊢) <;> omega)) (by first | assumption | (have a_0 := c_mask s1 (3 : Int32) 2 (by decide) (by decide); rw [hv_v1] at a_0; have a_1 := c_iushr s1 (2 : Int32) 2 (by decide) (by decide); have a_2 := c_mask ((s1.toUInt32 >>> ((2 : Int32) &&& 31).toUInt32).toInt32) (255 : Int32) 8 (by decide) (by decide); have a_3 := c_i2c (((s1.toUInt32 >>> ((2 : Int32) &&& 31).toUInt32).toInt32) &&& (255 : Int32)); rw [hv_v2] at a_3; have a_4 := c_iushr s1 (10 : Int32) 10 (by decide) (by decide); have a_5 := c_mask ((s1.toUInt32 >>> ((10 : Int32) &&& 31).toUInt32).toInt32) (255 : Int32) 8 (by decide) (by decide); have a_6 := c_i2c (((s1.toUInt32 >>> ((10 : Int32) &&& 31).toUInt32).toInt32) &&& (255 : Int32)); rw [hv_v3] at a_6; have a_7 := c_iushr s1 (18 : Int32) 18 (by decide) (by decide); have a_8 := c_mask ((s1.toUInt32 >>> ((18 : Int32) &&& 31).toUInt32).toInt32) (255 : Int32) 8 (by decide) (by decide); have a_9 := c_i2c (((s1.toUInt32 >>> ((18 : Int32) &&& 31).toUInt32).toInt32) &&& (255 : Int32)); rw [hv_v4] at a_9; have a_10 := c_mask md (1 : Int32) 1 (by decide) (by decide); have a_11 := c_mask j7 (3 : Int32) 2 (by decide) (by decide); rw [hv_v9] at a_11; have a_12 := c_iushr j7 (2 : Int32) 2 (by decide) (by decide); have a_13 := c_mask ((j7.toUInt32 >>> ((2 : Int32) &&& 31).toUInt32).toInt32) (255 : Int32) 8 (by decide) (by decide); have a_14 := c_i2c (((j7.toUInt32 >>> ((2 : Int32) &&& 31).toUInt32).toInt32) &&& (255 : Int32)); rw [hv_v10] at a_14; have a_15 := c_iushr j7 (10 : Int32) 10 (by decide) (by decide); have a_16 := c_mask ((j7.toUInt32 >>> ((10 : Int32) &&& 31).toUInt32).toInt32) (255 : Int32) 8 (by decide) (by decide); have a_17 := c_i2c (((j7.toUInt32 >>> ((10 : Int32) &&& 31).toUInt32).toInt32) &&& (255 : Int32)); rw [hv_v11] at a_17; have a_18 := c_iushr j7 (18 : Int32) 18 (by decide) (by decide); have a_19 := c_mask ((j7.toUInt32 >>> ((18 : Int32) &&& 31).toUInt32).toInt32) (255 : Int32) 8 (by decide) (by decide); have a_20 := c_i2c (((j7.toUInt32 >>> ((18 : Int32) &&& 31).toUInt32).toInt32) &&& (255 : Int32)); rw [hv_v12] at a_20; have a_21 := c_and md (2 : Int32) (by decide); have a_22 := rng32 (((j7.toUInt32 >>> ((10 : Int32) &&& 31).toUInt32).toInt32) &&& (255 : Int32)); have a_23 := rng32 (((j7.toUInt32 >>> ((18 : Int32) &&& 31).toUInt32).toInt32) &&& (255 : Int32)); have a_24 := rng32 (((j7.toUInt32 >>> ((2 : Int32) &&& 31).toUInt32).toInt32) &&& (255 : Int32)); have a_25 := rng32 (((s1.toUInt32 >>> ((10 : Int32) &&& 31).toUInt32).toInt32) &&& (255 : Int32)); have a_26 := rng32 (((s1.toUInt32 >>> ((18 : Int32) &&& 31).toUInt32).toInt32) &&& (255 : Int32)); have a_27 := rng32 (((s1.toUInt32 >>> ((2 : Int32) &&& 31).toUInt32).toInt32) &&& (255 : Int32)); have a_28 := rng32 ((j7.toUInt32 >>> ((10 : Int32) &&& 31).toUInt32).toInt32); have a_29 := rng32 ((j7.toUInt32 >>> ((18 : Int32) &&& 31).toUInt32).toInt32); have a_30 := rng32 ((j7.toUInt32 >>> ((2 : Int32) &&& 31).toUInt32).toInt32); have a_31 := rng32 ((s1.toUInt32 >>> ((10 : Int32) &&& 31).toUInt32).toInt32); have a_32 := rng32 ((s1.toUInt32 >>> ((18 : Int32) &&& 31).toUInt32).toInt32); have a_33 := rng32 ((s1.toUInt32 >>> ((2 : Int32) &&& 31).toUInt32).toInt32); have a_34 := rng32 (md &&& (1 : Int32)); have a_35 := rng32 (md &&& (2 : Int32)); have a_36 := rng32 j7; have a_37 := rng32 md; have a_38 := rng32 s1; have a_39 := rng32 v1; have a_40 := rng32 v10; have a_41 := rng32 v11; have a_42 := rng32 v12; have a_43 := rng32 v2; have a_44 := rng32 v3; have a_45 := rng32 v4; have a_46 := rng32 v9; (try simp only [Int32.lt_iff_toInt_lt, Int64.lt_iff_toInt_lt, ← Int32.toInt_inj, ← Int64.toInt_inj, Int32.reduceToInt, Int64.reduceToInt, eq_self, and_true, true_and, or_true, true_or, and_false, false_and, or_false, false_or, not_true_eq_false, not_false_eq_true] at a_0 a_1 a_2 a_3 a_4 a_5 a_6 a_7 a_8 a_9 a_10 a_11 a_12 a_13 a_14 a_15 a_16 a_17 a_18 a_19 a_20 a_21 a_22 a_23 a_24 a_25 a_26 a_27 a_28 a_29 a_30 a_31 a_32 a_33 a_34 a_35 a_36 a_37 a_38 a_39 a_40 a_41 a_42 a_43 a_44 a_45 a_46 ⊢) <;> omega))) hZ (hw _ (List.mem_of_getElem? (i := 3) rfl)) (hw _ (List.mem_of_getElem? (i := 2) rfl)) (by decide) (by decide) (own_EW hw) C0.1) (g := (mkF m 115 #[.val (.int s1), .val (.int s2), .val (.long c1), .second, .val (.long c2), .second, .val (.int md), .val (.int v1), .val (.int v2), .val (.int v3), .val (.int v4), .val (.int j7), .val (.int v9), .val (.int v10), .val (.int v11), .val (.int v12), .val (.long j15), .second, .unset, .unset, .unset, .unset, .unset, .unset] [(.int v4), (.int v3), (.int v2), (.int v1)])) rfl (by rw [hml]; rfl) (argsL := [(.int v1), (.int v2), (.int v3), (.int v4)]) (rest := []) (lenOf pd_8 rfl) rfl (by show 2 * 0 + _ ≤ _; exact Nat.le_of_eq rfl) (hb hby at_115) (fun _ _ => ⟨rfl, e16, (by decide : 0 + 6 ≤ _), (by decide : 0 + 12 ≤ _)⟩)
  dsimp only [Pt.U, Pt.locs, Pt.cells, Pt.slots] at X25 hSc25 hgr25 l25 y25 z25 st25 hQ25 Ca25
  have hS25 : s.Since T25.vm T25.heap.size := foldS (T := T16) hS0 (by rw [e16]; omega) hSc25 hgr25
  have hZ : Z.Warmed39 (s.setVm T25.vm).vm := State.Warmed39.trans (t := s.setVm s.vm) hZ hSc25.1
  have hown : (s.setVm T25.vm).vm.findClass "com/example/soft_throttle/softthrottle/usage/RequestCountEqualsPinLaw" = some m.cls := by rw [show (s.setVm T25.vm).vm = T25.vm from rfl, hSc25.1.alike.findClass]; exact hown
  have X25 := own_rebase X25
  subst l25 y25 z25
  obtain ⟨o26, o27, r28, rfl, Nq25, Kq25, P25_0, P25_1, P25_2, P25_3, P25_4⟩ := hQ25
  have N25 := Fr.app N16 Nq25
  have z25k : h0.size ≤ T25.heap.size := Kq25.1
  have C25 := C0.trans Ca25
  refine Comes.go st25 ?_
  have lt_29 : o26 < T25.heap.size := P25_0.lt
  have lt_30 : o27 < T25.heap.size := P25_3.lt
  show Comes p e below _ (T25.setTop (mkF m 118 #[.val (.int s1), .val (.int s2), .val (.long c1), .second, .val (.long c2), .second, .val (.int md), .val (.int v1), .val (.int v2), .val (.int v3), .val (.int v4), .val (.int j7), .val (.int v9), .val (.int v10), .val (.int v11), .val (.int v12), .val (.long j15), .second, .unset, .unset, .unset, .unset, .unset, .unset] [(.ref o26)]))
  refine Comes.st (fun t k => XS.astore X25.here hx rfl (hb hby at_118) rfl rfl (l' := #[.val (.int s1), .val (.int s2), .val (.long c1), .second, .val (.long c2), .second, .val (.int md), .val (.int v1), .val (.int v2), .val (.int v3), .val (.int v4), .val (.int j7), .val (.int v9), .val (.int v10), .val (.int v11), .val (.int v12), .val (.long j15), .second, .val (.ref o26), .unset, .unset, .unset, .unset, .unset]) rfl (XS.iload X25.here hx rfl (hb hby at_120) rfl (XS.iload X25.here hx rfl (hb hby at_122) rfl (XS.iload X25.here hx rfl (hb hby at_124) rfl (XS.iload X25.here hx rfl (hb hby at_126) rfl k))))) ?_
  show Comes p e below _ (T25.setTop (mkF m 128 #[.val (.int s1), .val (.int s2), .val (.long c1), .second, .val (.long c2), .second, .val (.int md), .val (.int v1), .val (.int v2), .val (.int v3), .val (.int v4), .val (.int j7), .val (.int v9), .val (.int v10), .val (.int v11), .val (.int v12), .val (.long j15), .second, .val (.ref o26), .unset, .unset, .unset, .unset, .unset] [(.int v12), (.int v11), (.int v10), (.int v9)]))
  have Od31 : Old Z n0 T25.heap := (G2.keep Kq25 all0)
  obtain ⟨_, _, ⟨T32, L32, k32, n32⟩, -, X32, hSc32, hgr32, ⟨Lc32, hQ32, l32, y32, z32, Ca32⟩, st32⟩ := callSS X25 hx (y := (⟨"com/example/soft_throttle/softthrottle/usage/RequestCountEqualsPinLaw", "mk", "(ICCC)Ljava/lang/String;"⟩ : MethodName)) hown (mvT hZ (hw _ (List.mem_of_getElem? (i := 0) rfl))) (mvT hZ (hw _ (List.mem_of_getElem? (i := 1) rfl))) (mvT hZ (hw _ (List.mem_of_getElem? (i := 2) rfl))) (mvT hZ (hw _ (List.mem_of_getElem? (i := 3) rfl))) (by decide) (backOfSH (W := 0) (mkG l Z a0 hw [] v9 v10 v11 v12 cs T25.heap n0 (by omega)  G0 (by first | assumption | (have a_0 := c_mask s1 (3 : Int32) 2 (by decide) (by decide); rw [hv_v1] at a_0; have a_1 := c_iushr s1 (2 : Int32) 2 (by decide) (by decide); have a_2 := c_mask ((s1.toUInt32 >>> ((2 : Int32) &&& 31).toUInt32).toInt32) (255 : Int32) 8 (by decide) (by decide); have a_3 := c_i2c (((s1.toUInt32 >>> ((2 : Int32) &&& 31).toUInt32).toInt32) &&& (255 : Int32)); rw [hv_v2] at a_3; have a_4 := c_iushr s1 (10 : Int32) 10 (by decide) (by decide); have a_5 := c_mask ((s1.toUInt32 >>> ((10 : Int32) &&& 31).toUInt32).toInt32) (255 : Int32) 8 (by decide) (by decide); have a_6 := c_i2c (((s1.toUInt32 >>> ((10 : Int32) &&& 31).toUInt32).toInt32) &&& (255 : Int32)); rw [hv_v3] at a_6; have a_7 := c_iushr s1 (18 : Int32) 18 (by decide) (by decide); have a_8 := c_mask ((s1.toUInt32 >>> ((18 : Int32) &&& 31).toUInt32).toInt32) (255 : Int32) 8 (by decide) (by decide); have a_9 := c_i2c (((s1.toUInt32 >>> ((18 : Int32) &&& 31).toUInt32).toInt32) &&& (255 : Int32)); rw [hv_v4] at a_9; have a_10 := c_mask md (1 : Int32) 1 (by decide) (by decide); have a_11 := c_mask j7 (3 : Int32) 2 (by decide) (by decide); rw [hv_v9] at a_11; have a_12 := c_iushr j7 (2 : Int32) 2 (by decide) (by decide); have a_13 := c_mask ((j7.toUInt32 >>> ((2 : Int32) &&& 31).toUInt32).toInt32) (255 : Int32) 8 (by decide) (by decide); have a_14 := c_i2c (((j7.toUInt32 >>> ((2 : Int32) &&& 31).toUInt32).toInt32) &&& (255 : Int32)); rw [hv_v10] at a_14; have a_15 := c_iushr j7 (10 : Int32) 10 (by decide) (by decide); have a_16 := c_mask ((j7.toUInt32 >>> ((10 : Int32) &&& 31).toUInt32).toInt32) (255 : Int32) 8 (by decide) (by decide); have a_17 := c_i2c (((j7.toUInt32 >>> ((10 : Int32) &&& 31).toUInt32).toInt32) &&& (255 : Int32)); rw [hv_v11] at a_17; have a_18 := c_iushr j7 (18 : Int32) 18 (by decide) (by decide); have a_19 := c_mask ((j7.toUInt32 >>> ((18 : Int32) &&& 31).toUInt32).toInt32) (255 : Int32) 8 (by decide) (by decide); have a_20 := c_i2c (((j7.toUInt32 >>> ((18 : Int32) &&& 31).toUInt32).toInt32) &&& (255 : Int32)); rw [hv_v12] at a_20; have a_21 := c_and md (2 : Int32) (by decide); have a_22 := rng32 (((j7.toUInt32 >>> ((10 : Int32) &&& 31).toUInt32).toInt32) &&& (255 : Int32)); have a_23 := rng32 (((j7.toUInt32 >>> ((18 : Int32) &&& 31).toUInt32).toInt32) &&& (255 : Int32)); have a_24 := rng32 (((j7.toUInt32 >>> ((2 : Int32) &&& 31).toUInt32).toInt32) &&& (255 : Int32)); have a_25 := rng32 (((s1.toUInt32 >>> ((10 : Int32) &&& 31).toUInt32).toInt32) &&& (255 : Int32)); have a_26 := rng32 (((s1.toUInt32 >>> ((18 : Int32) &&& 31).toUInt32).toInt32) &&& (255 : Int32)); have a_27 := rng32 (((s1.toUInt32 >>> ((2 : Int32) &&& 31).toUInt32).toInt32) &&& (255 : Int32)); have a_28 := rng32 ((j7.toUInt32 >>> ((10 : Int32) &&& 31).toUInt32).toInt32); have a_29 := rng32 ((j7.toUInt32 >>> ((18 : Int32) &&& 31).toUInt32).toInt32); have a_30 := rng32 ((j7.toUInt32 >>> ((2 : Int32) &&& 31).toUInt32).toInt32); have a_31 := rng32 ((s1.toUInt32 >>> ((10 : Int32) &&& 31).toUInt32).toInt32); have a_32 := rng32 ((s1.toUInt32 >>> ((18 : Int32) &&& 31).toUInt32).toInt32); have a_33 := rng32 ((s1.toUInt32 >>> ((2 : Int32) &&& 31).toUInt32).toInt32); have a_34 := rng32 (md &&& (1 : Int32)); have a_35 := rng32 (md &&& (2 : Int32)); have a_36 := rng32 j7; have a_37 := rng32 md; have a_38 := rng32 s1; have a_39 := rng32 v1; have a_40 := rng32 v10; have a_41 := rng32 v11; have a_42 := rng32 v12; have a_43 := rng32 v2; have a_44 := rng32 v3; have a_45 := rng32 v4; have a_46 := rng32 v9; (try simp only [Int32.lt_iff_toInt_lt, Int64.lt_iff_toInt_lt, ← Int32.toInt_inj, ← Int64.toInt_inj, Int32.reduceToInt, Int64.reduceToInt, eq_self, and_true, true_and, or_true, true_or, and_false, false_and, or_false, false_or, not_true_eq_false, not_false_eq_true] at a_0 a_1 a_2 a_3 a_4 a_5 a_6 a_7 a_8 a_9 a_10 a_11 a_12 a_13 a_14 a_15 a_16 a_17 a_18 a_19 a_20 a_21 a_22 a_23 a_24 a_25 a_26 a_27 a_28 a_29 a_30 a_31 a_32 a_33 a_34 a_35 a_36 a_37 a_38 a_39 a_40 a_41 a_42 a_43 a_44 a_45 a_46 ⊢) <;> omega)) Od31 (by first | assumption | (have a_0 := c_mask s1 (3 : Int32) 2 (by decide) (by decide); rw [hv_v1] at a_0; have a_1 := c_iushr s1 (2 : Int32) 2 (by decide) (by decide); have a_2 := c_mask ((s1.toUInt32 >>> ((2 : Int32) &&& 31).toUInt32).toInt32) (255 : Int32) 8 (by decide) (by decide); have a_3 := c_i2c (((s1.toUInt32 >>> ((2 : Int32) &&& 31).toUInt32).toInt32) &&& (255 : Int32)); rw [hv_v2] at a_3; have a_4 := c_iushr s1 (10 : Int32) 10 (by decide) (by decide); have a_5 := c_mask ((s1.toUInt32 >>> ((10 : Int32) &&& 31).toUInt32).toInt32) (255 : Int32) 8 (by decide) (by decide); have a_6 := c_i2c (((s1.toUInt32 >>> ((10 : Int32) &&& 31).toUInt32).toInt32) &&& (255 : Int32)); rw [hv_v3] at a_6; have a_7 := c_iushr s1 (18 : Int32) 18 (by decide) (by decide); have a_8 := c_mask ((s1.toUInt32 >>> ((18 : Int32) &&& 31).toUInt32).toInt32) (255 : Int32) 8 (by decide) (by decide); have a_9 := c_i2c (((s1.toUInt32 >>> ((18 : Int32) &&& 31).toUInt32).toInt32) &&& (255 : Int32)); rw [hv_v4] at a_9; have a_10 := c_mask md (1 : Int32) 1 (by decide) (by decide); have a_11 := c_mask j7 (3 : Int32) 2 (by decide) (by decide); rw [hv_v9] at a_11; have a_12 := c_iushr j7 (2 : Int32) 2 (by decide) (by decide); have a_13 := c_mask ((j7.toUInt32 >>> ((2 : Int32) &&& 31).toUInt32).toInt32) (255 : Int32) 8 (by decide) (by decide); have a_14 := c_i2c (((j7.toUInt32 >>> ((2 : Int32) &&& 31).toUInt32).toInt32) &&& (255 : Int32)); rw [hv_v10] at a_14; have a_15 := c_iushr j7 (10 : Int32) 10 (by decide) (by decide); have a_16 := c_mask ((j7.toUInt32 >>> ((10 : Int32) &&& 31).toUInt32).toInt32) (255 : Int32) 8 (by decide) (by decide); have a_17 := c_i2c (((j7.toUInt32 >>> ((10 : Int32) &&& 31).toUInt32).toInt32) &&& (255 : Int32)); rw [hv_v11] at a_17; have a_18 := c_iushr j7 (18 : Int32) 18 (by decide) (by decide); have a_19 := c_mask ((j7.toUInt32 >>> ((18 : Int32) &&& 31).toUInt32).toInt32) (255 : Int32) 8 (by decide) (by decide); have a_20 := c_i2c (((j7.toUInt32 >>> ((18 : Int32) &&& 31).toUInt32).toInt32) &&& (255 : Int32)); rw [hv_v12] at a_20; have a_21 := c_and md (2 : Int32) (by decide); have a_22 := rng32 (((j7.toUInt32 >>> ((10 : Int32) &&& 31).toUInt32).toInt32) &&& (255 : Int32)); have a_23 := rng32 (((j7.toUInt32 >>> ((18 : Int32) &&& 31).toUInt32).toInt32) &&& (255 : Int32)); have a_24 := rng32 (((j7.toUInt32 >>> ((2 : Int32) &&& 31).toUInt32).toInt32) &&& (255 : Int32)); have a_25 := rng32 (((s1.toUInt32 >>> ((10 : Int32) &&& 31).toUInt32).toInt32) &&& (255 : Int32)); have a_26 := rng32 (((s1.toUInt32 >>> ((18 : Int32) &&& 31).toUInt32).toInt32) &&& (255 : Int32)); have a_27 := rng32 (((s1.toUInt32 >>> ((2 : Int32) &&& 31).toUInt32).toInt32) &&& (255 : Int32)); have a_28 := rng32 ((j7.toUInt32 >>> ((10 : Int32) &&& 31).toUInt32).toInt32); have a_29 := rng32 ((j7.toUInt32 >>> ((18 : Int32) &&& 31).toUInt32).toInt32); have a_30 := rng32 ((j7.toUInt32 >>> ((2 : Int32) &&& 31).toUInt32).toInt32); have a_31 := rng32 ((s1.toUInt32 >>> ((10 : Int32) &&& 31).toUInt32).toInt32); have a_32 := rng32 ((s1.toUInt32 >>> ((18 : Int32) &&& 31).toUInt32).toInt32); have a_33 := rng32 ((s1.toUInt32 >>> ((2 : Int32) &&& 31).toUInt32).toInt32); have a_34 := rng32 (md &&& (1 : Int32)); have a_35 := rng32 (md &&& (2 : Int32)); have a_36 := rng32 j7; have a_37 := rng32 md; have a_38 := rng32 s1; have a_39 := rng32 v1; have a_40 := rng32 v10; have a_41 := rng32 v11; have a_42 := rng32 v12; have a_43 := rng32 v2; have a_44 := rng32 v3; have a_45 := rng32 v4; have a_46 := rng32 v9; (try simp only [Int32.lt_iff_toInt_lt, Int64.lt_iff_toInt_lt, ← Int32.toInt_inj, ← Int64.toInt_inj, Int32.reduceToInt, Int64.reduceToInt, eq_self, and_true, true_and, or_true, true_or, and_false, false_and, or_false, false_or, not_true_eq_false, not_false_eq_true] at a_0 a_1 a_2 a_3 a_4 a_5 a_6 a_7 a_8 a_9 a_10 a_11 a_12 a_13 a_14 a_15 a_16 a_17 a_18 a_19 a_20 a_21 a_22 a_23 a_24 a_25 a_26 a_27 a_28 a_29 a_30 a_31 a_32 a_33 a_34 a_35 a_36 a_37 a_38 a_39 a_40 a_41 a_42 a_43 a_44 a_45 a_46 ⊢) <;> omega)) (by first | assumption | (have a_0 := c_mask s1 (3 : Int32) 2 (by decide) (by decide); rw [hv_v1] at a_0; have a_1 := c_iushr s1 (2 : Int32) 2 (by decide) (by decide); have a_2 := c_mask ((s1.toUInt32 >>> ((2 : Int32) &&& 31).toUInt32).toInt32) (255 : Int32) 8 (by decide) (by decide); have a_3 := c_i2c (((s1.toUInt32 >>> ((2 : Int32) &&& 31).toUInt32).toInt32) &&& (255 : Int32)); rw [hv_v2] at a_3; have a_4 := c_iushr s1 (10 : Int32) 10 (by decide) (by decide); have a_5 := c_mask ((s1.toUInt32 >>> ((10 : Int32) &&& 31).toUInt32).toInt32) (255 : Int32) 8 (by decide) (by decide); have a_6 := c_i2c (((s1.toUInt32 >>> ((10 : Int32) &&& 31).toUInt32).toInt32) &&& (255 : Int32)); rw [hv_v3] at a_6; have a_7 := c_iushr s1 (18 : Int32) 18 (by decide) (by decide); have a_8 := c_mask ((s1.toUInt32 >>> ((18 : Int32) &&& 31).toUInt32).toInt32) (255 : Int32) 8 (by decide) (by decide); have a_9 := c_i2c (((s1.toUInt32 >>> ((18 : Int32) &&& 31).toUInt32).toInt32) &&& (255 : Int32)); rw [hv_v4] at a_9; have a_10 := c_mask md (1 : Int32) 1 (by decide) (by decide); have a_11 := c_mask j7 (3 : Int32) 2 (by decide) (by decide); rw [hv_v9] at a_11; have a_12 := c_iushr j7 (2 : Int32) 2 (by decide) (by decide); have a_13 := c_mask ((j7.toUInt32 >>> ((2 : Int32) &&& 31).toUInt32).toInt32) (255 : Int32) 8 (by decide) (by decide); have a_14 := c_i2c (((j7.toUInt32 >>> ((2 : Int32) &&& 31).toUInt32).toInt32) &&& (255 : Int32)); rw [hv_v10] at a_14; have a_15 := c_iushr j7 (10 : Int32) 10 (by decide) (by decide); have a_16 := c_mask ((j7.toUInt32 >>> ((10 : Int32) &&& 31).toUInt32).toInt32) (255 : Int32) 8 (by decide) (by decide); have a_17 := c_i2c (((j7.toUInt32 >>> ((10 : Int32) &&& 31).toUInt32).toInt32) &&& (255 : Int32)); rw [hv_v11] at a_17; have a_18 := c_iushr j7 (18 : Int32) 18 (by decide) (by decide); have a_19 := c_mask ((j7.toUInt32 >>> ((18 : Int32) &&& 31).toUInt32).toInt32) (255 : Int32) 8 (by decide) (by decide); have a_20 := c_i2c (((j7.toUInt32 >>> ((18 : Int32) &&& 31).toUInt32).toInt32) &&& (255 : Int32)); rw [hv_v12] at a_20; have a_21 := c_and md (2 : Int32) (by decide); have a_22 := rng32 (((j7.toUInt32 >>> ((10 : Int32) &&& 31).toUInt32).toInt32) &&& (255 : Int32)); have a_23 := rng32 (((j7.toUInt32 >>> ((18 : Int32) &&& 31).toUInt32).toInt32) &&& (255 : Int32)); have a_24 := rng32 (((j7.toUInt32 >>> ((2 : Int32) &&& 31).toUInt32).toInt32) &&& (255 : Int32)); have a_25 := rng32 (((s1.toUInt32 >>> ((10 : Int32) &&& 31).toUInt32).toInt32) &&& (255 : Int32)); have a_26 := rng32 (((s1.toUInt32 >>> ((18 : Int32) &&& 31).toUInt32).toInt32) &&& (255 : Int32)); have a_27 := rng32 (((s1.toUInt32 >>> ((2 : Int32) &&& 31).toUInt32).toInt32) &&& (255 : Int32)); have a_28 := rng32 ((j7.toUInt32 >>> ((10 : Int32) &&& 31).toUInt32).toInt32); have a_29 := rng32 ((j7.toUInt32 >>> ((18 : Int32) &&& 31).toUInt32).toInt32); have a_30 := rng32 ((j7.toUInt32 >>> ((2 : Int32) &&& 31).toUInt32).toInt32); have a_31 := rng32 ((s1.toUInt32 >>> ((10 : Int32) &&& 31).toUInt32).toInt32); have a_32 := rng32 ((s1.toUInt32 >>> ((18 : Int32) &&& 31).toUInt32).toInt32); have a_33 := rng32 ((s1.toUInt32 >>> ((2 : Int32) &&& 31).toUInt32).toInt32); have a_34 := rng32 (md &&& (1 : Int32)); have a_35 := rng32 (md &&& (2 : Int32)); have a_36 := rng32 j7; have a_37 := rng32 md; have a_38 := rng32 s1; have a_39 := rng32 v1; have a_40 := rng32 v10; have a_41 := rng32 v11; have a_42 := rng32 v12; have a_43 := rng32 v2; have a_44 := rng32 v3; have a_45 := rng32 v4; have a_46 := rng32 v9; (try simp only [Int32.lt_iff_toInt_lt, Int64.lt_iff_toInt_lt, ← Int32.toInt_inj, ← Int64.toInt_inj, Int32.reduceToInt, Int64.reduceToInt, eq_self, and_true, true_and, or_true, true_or, and_false, false_and, or_false, false_or, not_true_eq_false, not_false_eq_true] at a_0 a_1 a_2 a_3 a_4 a_5 a_6 a_7 a_8 a_9 a_10 a_11 a_12 a_13 a_14 a_15 a_16 a_17 a_18 a_19 a_20 a_21 a_22 a_23 a_24 a_25 a_26 a_27 a_28 a_29 a_30 a_31 a_32 a_33 a_34 a_35 a_36 a_37 a_38 a_39 a_40 a_41 a_42 a_43 a_44 a_45 a_46 ⊢) <;> omega)) (by first | assumption | (have a_0 := c_mask s1 (3 : Int32) 2 (by decide) (by decide); rw [hv_v1] at a_0; have a_1 := c_iushr s1 (2 : Int32) 2 (by decide) (by decide); have a_2 := c_mask ((s1.toUInt32 >>> ((2 : Int32) &&& 31).toUInt32).toInt32) (255 : Int32) 8 (by decide) (by decide); have a_3 := c_i2c (((s1.toUInt32 >>> ((2 : Int32) &&& 31).toUInt32).toInt32) &&& (255 : Int32)); rw [hv_v2] at a_3; have a_4 := c_iushr s1 (10 : Int32) 10 (by decide) (by decide); have a_5 := c_mask ((s1.toUInt32 >>> ((10 : Int32) &&& 31).toUInt32).toInt32) (255 : Int32) 8 (by decide) (by decide); have a_6 := c_i2c (((s1.toUInt32 >>> ((10 : Int32) &&& 31).toUInt32).toInt32) &&& (255 : Int32)); rw [hv_v3] at a_6; have a_7 := c_iushr s1 (18 : Int32) 18 (by decide) (by decide); have a_8 := c_mask ((s1.toUInt32 >>> ((18 : Int32) &&& 31).toUInt32).toInt32) (255 : Int32) 8 (by decide) (by decide); have a_9 := c_i2c (((s1.toUInt32 >>> ((18 : Int32) &&& 31).toUInt32).toInt32) &&& (255 : Int32)); rw [hv_v4] at a_9; have a_10 := c_mask md (1 : Int32) 1 (by decide) (by decide); have a_11 := c_mask j7 (3 : Int32) 2 (by decide) (by decide); rw [hv_v9] at a_11; have a_12 := c_iushr j7 (2 : Int32) 2 (by decide) (by decide); have a_13 := c_mask ((j7.toUInt32 >>> ((2 : Int32) &&& 31).toUInt32).toInt32) (255 : Int32) 8 (by decide) (by decide); have a_14 := c_i2c (((j7.toUInt32 >>> ((2 : Int32) &&& 31).toUInt32).toInt32) &&& (255 : Int32)); rw [hv_v10] at a_14; have a_15 := c_iushr j7 (10 : Int32) 10 (by decide) (by decide); have a_16 := c_mask ((j7.toUInt32 >>> ((10 : Int32) &&& 31).toUInt32).toInt32) (255 : Int32) 8 (by decide) (by decide); have a_17 := c_i2c (((j7.toUInt32 >>> ((10 : Int32) &&& 31).toUInt32).toInt32) &&& (255 : Int32)); rw [hv_v11] at a_17; have a_18 := c_iushr j7 (18 : Int32) 18 (by decide) (by decide); have a_19 := c_mask ((j7.toUInt32 >>> ((18 : Int32) &&& 31).toUInt32).toInt32) (255 : Int32) 8 (by decide) (by decide); have a_20 := c_i2c (((j7.toUInt32 >>> ((18 : Int32) &&& 31).toUInt32).toInt32) &&& (255 : Int32)); rw [hv_v12] at a_20; have a_21 := c_and md (2 : Int32) (by decide); have a_22 := rng32 (((j7.toUInt32 >>> ((10 : Int32) &&& 31).toUInt32).toInt32) &&& (255 : Int32)); have a_23 := rng32 (((j7.toUInt32 >>> ((18 : Int32) &&& 31).toUInt32).toInt32) &&& (255 : Int32)); have a_24 := rng32 (((j7.toUInt32 >>> ((2 : Int32) &&& 31).toUInt32).toInt32) &&& (255 : Int32)); have a_25 := rng32 (((s1.toUInt32 >>> ((10 : Int32) &&& 31).toUInt32).toInt32) &&& (255 : Int32)); have a_26 := rng32 (((s1.toUInt32 >>> ((18 : Int32) &&& 31).toUInt32).toInt32) &&& (255 : Int32)); have a_27 := rng32 (((s1.toUInt32 >>> ((2 : Int32) &&& 31).toUInt32).toInt32) &&& (255 : Int32)); have a_28 := rng32 ((j7.toUInt32 >>> ((10 : Int32) &&& 31).toUInt32).toInt32); have a_29 := rng32 ((j7.toUInt32 >>> ((18 : Int32) &&& 31).toUInt32).toInt32); have a_30 := rng32 ((j7.toUInt32 >>> ((2 : Int32) &&& 31).toUInt32).toInt32); have a_31 := rng32 ((s1.toUInt32 >>> ((10 : Int32) &&& 31).toUInt32).toInt32); have a_32 := rng32 ((s1.toUInt32 >>> ((18 : Int32) &&& 31).toUInt32).toInt32); have a_33 := rng32 ((s1.toUInt32 >>> ((2 : Int32) &&& 31).toUInt32).toInt32); have a_34 := rng32 (md &&& (1 : Int32)); have a_35 := rng32 (md &&& (2 : Int32)); have a_36 := rng32 j7; have a_37 := rng32 md; have a_38 := rng32 s1; have a_39 := rng32 v1; have a_40 := rng32 v10; have a_41 := rng32 v11; have a_42 := rng32 v12; have a_43 := rng32 v2; have a_44 := rng32 v3; have a_45 := rng32 v4; have a_46 := rng32 v9; (try simp only [Int32.lt_iff_toInt_lt, Int64.lt_iff_toInt_lt, ← Int32.toInt_inj, ← Int64.toInt_inj, Int32.reduceToInt, Int64.reduceToInt, eq_self, and_true, true_and, or_true, true_or, and_false, false_and, or_false, false_or, not_true_eq_false, not_false_eq_true] at a_0 a_1 a_2 a_3 a_4 a_5 a_6 a_7 a_8 a_9 a_10 a_11 a_12 a_13 a_14 a_15 a_16 a_17 a_18 a_19 a_20 a_21 a_22 a_23 a_24 a_25 a_26 a_27 a_28 a_29 a_30 a_31 a_32 a_33 a_34 a_35 a_36 a_37 a_38 a_39 a_40 a_41 a_42 a_43 a_44 a_45 a_46 ⊢) <;> omega)) (by first | assumption | (have a_0 := c_mask s1 (3 : Int32) 2 (by decide) (by decide); rw [hv_v1] at a_0; have a_1 := c_iushr s1 (2 : Int32) 2 (by decide) (by decide); have a_2 := c_mask ((s1.toUInt32 >>> ((2 : Int32) &&& 31).toUInt32).toInt32) (255 : Int32) 8 (by decide) (by decide); have a_3 := c_i2c (((s1.toUInt32 >>> ((2 : Int32) &&& 31).toUInt32).toInt32) &&& (255 : Int32)); rw [hv_v2] at a_3; have a_4 := c_iushr s1 (10 : Int32) 10 (by decide) (by decide); have a_5 := c_mask ((s1.toUInt32 >>> ((10 : Int32) &&& 31).toUInt32).toInt32) (255 : Int32) 8 (by decide) (by decide); have a_6 := c_i2c (((s1.toUInt32 >>> ((10 : Int32) &&& 31).toUInt32).toInt32) &&& (255 : Int32)); rw [hv_v3] at a_6; have a_7 := c_iushr s1 (18 : Int32) 18 (by decide) (by decide); have a_8 := c_mask ((s1.toUInt32 >>> ((18 : Int32) &&& 31).toUInt32).toInt32) (255 : Int32) 8 (by decide) (by decide); have a_9 := c_i2c (((s1.toUInt32 >>> ((18 : Int32) &&& 31).toUInt32).toInt32) &&& (255 : Int32)); rw [hv_v4] at a_9; have a_10 := c_mask md (1 : Int32) 1 (by decide) (by decide); have a_11 := c_mask j7 (3 : Int32) 2 (by decide) (by decide); rw [hv_v9] at a_11; have a_12 := c_iushr j7 (2 : Int32) 2 (by decide) (by decide); have a_13 := c_mask ((j7.toUInt32 >>> ((2 : Int32) &&& 31).toUInt32).toInt32) (255 : Int32) 8 (by decide) (by decide); have a_14 := c_i2c (((j7.toUInt32 >>> ((2 : Int32) &&& 31).toUInt32).toInt32) &&& (255 : Int32)); rw [hv_v10] at a_14; have a_15 := c_iushr j7 (10 : Int32) 10 (by decide) (by decide); have a_16 := c_mask ((j7.toUInt32 >>> ((10 : Int32) &&& 31).toUInt32).toInt32) (255 : Int32) 8 (by decide) (by decide); have a_17 := c_i2c (((j7.toUInt32 >>> ((10 : Int32) &&& 31).toUInt32).toInt32) &&& (255 : Int32)); rw [hv_v11] at a_17; have a_18 := c_iushr j7 (18 : Int32) 18 (by decide) (by decide); have a_19 := c_mask ((j7.toUInt32 >>> ((18 : Int32) &&& 31).toUInt32).toInt32) (255 : Int32) 8 (by decide) (by decide); have a_20 := c_i2c (((j7.toUInt32 >>> ((18 : Int32) &&& 31).toUInt32).toInt32) &&& (255 : Int32)); rw [hv_v12] at a_20; have a_21 := c_and md (2 : Int32) (by decide); have a_22 := rng32 (((j7.toUInt32 >>> ((10 : Int32) &&& 31).toUInt32).toInt32) &&& (255 : Int32)); have a_23 := rng32 (((j7.toUInt32 >>> ((18 : Int32) &&& 31).toUInt32).toInt32) &&& (255 : Int32)); have a_24 := rng32 (((j7.toUInt32 >>> ((2 : Int32) &&& 31).toUInt32).toInt32) &&& (255 : Int32)); have a_25 := rng32 (((s1.toUInt32 >>> ((10 : Int32) &&& 31).toUInt32).toInt32) &&& (255 : Int32)); have a_26 := rng32 (((s1.toUInt32 >>> ((18 : Int32) &&& 31).toUInt32).toInt32) &&& (255 : Int32)); have a_27 := rng32 (((s1.toUInt32 >>> ((2 : Int32) &&& 31).toUInt32).toInt32) &&& (255 : Int32)); have a_28 := rng32 ((j7.toUInt32 >>> ((10 : Int32) &&& 31).toUInt32).toInt32); have a_29 := rng32 ((j7.toUInt32 >>> ((18 : Int32) &&& 31).toUInt32).toInt32); have a_30 := rng32 ((j7.toUInt32 >>> ((2 : Int32) &&& 31).toUInt32).toInt32); have a_31 := rng32 ((s1.toUInt32 >>> ((10 : Int32) &&& 31).toUInt32).toInt32); have a_32 := rng32 ((s1.toUInt32 >>> ((18 : Int32) &&& 31).toUInt32).toInt32); have a_33 := rng32 ((s1.toUInt32 >>> ((2 : Int32) &&& 31).toUInt32).toInt32); have a_34 := rng32 (md &&& (1 : Int32)); have a_35 := rng32 (md &&& (2 : Int32)); have a_36 := rng32 j7; have a_37 := rng32 md; have a_38 := rng32 s1; have a_39 := rng32 v1; have a_40 := rng32 v10; have a_41 := rng32 v11; have a_42 := rng32 v12; have a_43 := rng32 v2; have a_44 := rng32 v3; have a_45 := rng32 v4; have a_46 := rng32 v9; (try simp only [Int32.lt_iff_toInt_lt, Int64.lt_iff_toInt_lt, ← Int32.toInt_inj, ← Int64.toInt_inj, Int32.reduceToInt, Int64.reduceToInt, eq_self, and_true, true_and, or_true, true_or, and_false, false_and, or_false, false_or, not_true_eq_false, not_false_eq_true] at a_0 a_1 a_2 a_3 a_4 a_5 a_6 a_7 a_8 a_9 a_10 a_11 a_12 a_13 a_14 a_15 a_16 a_17 a_18 a_19 a_20 a_21 a_22 a_23 a_24 a_25 a_26 a_27 a_28 a_29 a_30 a_31 a_32 a_33 a_34 a_35 a_36 a_37 a_38 a_39 a_40 a_41 a_42 a_43 a_44 a_45 a_46 ⊢) <;> omega))) hZ (hw _ (List.mem_of_getElem? (i := 3) rfl)) (hw _ (List.mem_of_getElem? (i := 2) rfl)) (by decide) (by decide) (own_EW hw) C25.1) (g := (mkF m 128 #[.val (.int s1), .val (.int s2), .val (.long c1), .second, .val (.long c2), .second, .val (.int md), .val (.int v1), .val (.int v2), .val (.int v3), .val (.int v4), .val (.int j7), .val (.int v9), .val (.int v10), .val (.int v11), .val (.int v12), .val (.long j15), .second, .val (.ref o26), .unset, .unset, .unset, .unset, .unset] [(.int v12), (.int v11), (.int v10), (.int v9)])) rfl (by rw [hml]; rfl) (argsL := [(.int v9), (.int v10), (.int v11), (.int v12)]) (rest := []) (lenOf pd_8 rfl) rfl (by show 2 * 0 + _ ≤ _; exact Nat.le_of_eq rfl) (hb hby at_128) (fun _ _ => ⟨rfl, rfl, (by decide : 6 + 6 ≤ _), (by decide : 12 + 12 ≤ _)⟩)
  dsimp only [Pt.U, Pt.locs, Pt.cells, Pt.slots] at X32 hSc32 hgr32 l32 y32 z32 st32 hQ32 Ca32
  have hS32 : s.Since T32.vm T32.heap.size := foldS (T := T25) hS25 (by omega) hSc32 hgr32
  have hZ : Z.Warmed39 (s.setVm T32.vm).vm := State.Warmed39.trans (t := s.setVm T25.vm) hZ hSc32.1
  have hown : (s.setVm T32.vm).vm.findClass "com/example/soft_throttle/softthrottle/usage/RequestCountEqualsPinLaw" = some m.cls := by rw [show (s.setVm T32.vm).vm = T32.vm from rfl, hSc32.1.alike.findClass]; exact hown
  have X32 := own_rebase X32
  subst l32 y32 z32
  obtain ⟨o33, o34, r35, rfl, Nq32, Kq32, P32_0, P32_1, P32_2, P32_3, P32_4⟩ := hQ32
  have N32 := Fr.app N25 Nq32
  have z32k : T25.heap.size ≤ T32.heap.size := Kq32.1
  have C32 := C25.trans Ca32
  refine Comes.go st32 ?_
  have lt_36 : o33 < T32.heap.size := P32_0.lt
  have lt_37 : o34 < T32.heap.size := P32_3.lt
  show Comes p e below _ (T32.setTop (mkF m 131 #[.val (.int s1), .val (.int s2), .val (.long c1), .second, .val (.long c2), .second, .val (.int md), .val (.int v1), .val (.int v2), .val (.int v3), .val (.int v4), .val (.int j7), .val (.int v9), .val (.int v10), .val (.int v11), .val (.int v12), .val (.long j15), .second, .val (.ref o26), .unset, .unset, .unset, .unset, .unset] [(.ref o33)]))
  refine Comes.st (fun t k => XS.astore X32.here hx rfl (hb hby at_131) rfl rfl (l' := #[.val (.int s1), .val (.int s2), .val (.long c1), .second, .val (.long c2), .second, .val (.int md), .val (.int v1), .val (.int v2), .val (.int v3), .val (.int v4), .val (.int j7), .val (.int v9), .val (.int v10), .val (.int v11), .val (.int v12), .val (.long j15), .second, .val (.ref o26), .val (.ref o33), .unset, .unset, .unset, .unset]) rfl k) ?_
  show Comes p e below _ (T32.setTop (mkF m 133 #[.val (.int s1), .val (.int s2), .val (.long c1), .second, .val (.long c2), .second, .val (.int md), .val (.int v1), .val (.int v2), .val (.int v3), .val (.int v4), .val (.int j7), .val (.int v9), .val (.int v10), .val (.int v11), .val (.int v12), .val (.long j15), .second, .val (.ref o26), .val (.ref o33), .unset, .unset, .unset, .unset] []))
  obtain ⟨T38, h38, X38, e38, E38, A38, D38, -, st38⟩ := newO X32 hx hZ hown (hw _ (List.mem_of_getElem? (i := 37) rfl)) (hw _ (List.mem_of_getElem? (i := 38) rfl)) (hw _ (List.mem_of_getElem? (i := 39) rfl)) rfl (g := (mkF m 133 #[.val (.int s1), .val (.int s2), .val (.long c1), .second, .val (.long c2), .second, .val (.int md), .val (.int v1), .val (.int v2), .val (.int v3), .val (.int v4), .val (.int j7), .val (.int v9), .val (.int v10), .val (.int v11), .val (.int v12), .val (.long j15), .second, .val (.ref o26), .val (.ref o33), .unset, .unset, .unset, .unset] [])) rfl (hb hby at_133) (by decide) (by decide)
  obtain ⟨b38, g38⟩ : ∃ z, z = T32.heap.size := ⟨_, rfl⟩
  rw [← g38] at A38 D38 st38
  have Ca38 := CHr.ext E38 C32.1
  have z38 : T32.heap.size ≤ h38.size := E38.1
  have C38 := C32.trans Ca38
  have lt38 : b38 < h38.size := A38.lt
  have F39 : Fld Z h38 b38 "com/example/soft_throttle/softthrottle/usage/RequestCount" "request" "Ljava/lang/String;" .null := D38 (Or.inr (hw _ (List.mem_of_getElem? (i := 51) rfl))) (ty := (.object "java/lang/String")) (by decide)
  have F40 : Fld Z h38 b38 "com/example/soft_throttle/softthrottle/usage/RequestCount" "count" "J" (.long (0 : Int64)) := D38 (Or.inr (hw _ (List.mem_of_getElem? (i := 53) rfl))) (ty := .long) (by decide)
  refine Comes.st st38 ?_
  show Comes p e below _ (T38.setTop (mkF m 136 #[.val (.int s1), .val (.int s2), .val (.long c1), .second, .val (.long c2), .second, .val (.int md), .val (.int v1), .val (.int v2), .val (.int v3), .val (.int v4), .val (.int j7), .val (.int v9), .val (.int v10), .val (.int v11), .val (.int v12), .val (.long j15), .second, .val (.ref o26), .val (.ref o33), .unset, .unset, .unset, .unset] [(.ref b38)]))
  refine Comes.st (fun t k => XS.dup X38.here hx rfl (hb hby at_136) rfl rfl (XS.aload X38.here hx rfl (hb hby at_137) rfl rfl (XS.lloadN X38.here hx rfl (hb hby at_139) rfl k))) ?_
  show Comes p e below _ (T38.setTop (mkF m 140 #[.val (.int s1), .val (.int s2), .val (.long c1), .second, .val (.long c2), .second, .val (.int md), .val (.int v1), .val (.int v2), .val (.int v3), .val (.int v4), .val (.int j7), .val (.int v9), .val (.int v10), .val (.int v11), .val (.int v12), .val (.long j15), .second, .val (.ref o26), .val (.ref o33), .unset, .unset, .unset, .unset] [(.long c1), (.ref o26), (.ref b38), (.ref b38)]))
  have F41 : Exa Z h38 o26 "java/lang/String" := ((P25_0.keep Kq32).ext E38)
  obtain ⟨_, _, ⟨T42, L42, k42, n42⟩, -, X42, hSc42, hgr42, ⟨Lc42, hQ42, l42, y42, z42⟩, st42⟩ := X38.specialBackS hx (y := (⟨"com/example/soft_throttle/softthrottle/usage/RequestCount", "<init>", "(Ljava/lang/String;J)V"⟩ : MethodName)) rfl hown (mvT hZ (hw _ (List.mem_of_getElem? (i := 40) rfl))) (mvT hZ (hw _ (List.mem_of_getElem? (i := 41) rfl))) (mvT hZ (hw _ (List.mem_of_getElem? (i := 42) rfl))) (by decide) (backOfS (W := 1) (rm8 l Z a0 hw [] b38 o26 c1 h38 n0 (by omega)  A38 F39 F40 F41 (by omega)) hZ (hw _ (List.mem_of_getElem? (i := 42) rfl)) (hw _ (List.mem_of_getElem? (i := 39) rfl)) (by decide) (by decide)) (g := (mkF m 140 #[.val (.int s1), .val (.int s2), .val (.long c1), .second, .val (.long c2), .second, .val (.int md), .val (.int v1), .val (.int v2), .val (.int v3), .val (.int v4), .val (.int j7), .val (.int v9), .val (.int v10), .val (.int v11), .val (.int v12), .val (.long j15), .second, .val (.ref o26), .val (.ref o33), .unset, .unset, .unset, .unset] [(.long c1), (.ref o26), (.ref b38), (.ref b38)])) rfl (by rw [hml]; rfl) (Steps.refl _) (a := b38) (argsL := [(.ref o26), (.long c1)]) (rest := [(.ref b38)]) (lenOf pd_9 rfl) rfl (by show 2 * 0 + _ ≤ _; exact Nat.le_of_eq rfl) (hb hby at_140) (fun _ _ => ⟨rfl, e38, (by decide : 13 + 2 ≤ _), (by decide : 26 + 32 ≤ _)⟩)
  dsimp only [Pt.U, Pt.locs, Pt.cells, Pt.slots] at X42 hSc42 hgr42 l42 y42 z42 st42 hQ42
  have hS42 : s.Since T42.vm T42.heap.size := foldS (T := T38) hS32 (by rw [e38]; omega) hSc42 hgr42
  have hZ : Z.Warmed39 (s.setVm T42.vm).vm := State.Warmed39.trans (t := s.setVm T32.vm) hZ hSc42.1
  have hown : (s.setVm T42.vm).vm.findClass "com/example/soft_throttle/softthrottle/usage/RequestCountEqualsPinLaw" = some m.cls := by rw [show (s.setVm T42.vm).vm = T42.vm from rfl, hSc42.1.alike.findClass]; exact hown
  have X42 := own_rebase X42
  subst l42 y42 z42
  obtain ⟨rfl, Nq42, Kq42, P42_0, P42_1, P42_2⟩ := hQ42
  have N42 := Fr.app N32 Nq42
  have z42k : h38.size ≤ T42.heap.size := Kq42.1
  refine Comes.go st42 ?_
  have lt_43 : b38 < T42.heap.size := P42_0.lt
  show Comes p e below _ (T42.setTop (mkF m 143 #[.val (.int s1), .val (.int s2), .val (.long c1), .second, .val (.long c2), .second, .val (.int md), .val (.int v1), .val (.int v2), .val (.int v3), .val (.int v4), .val (.int j7), .val (.int v9), .val (.int v10), .val (.int v11), .val (.int v12), .val (.long j15), .second, .val (.ref o26), .val (.ref o33), .unset, .unset, .unset, .unset] [(.ref b38)]))
  refine Comes.st (fun t k => XS.astore X42.here hx rfl (hb hby at_143) rfl rfl (l' := #[.val (.int s1), .val (.int s2), .val (.long c1), .second, .val (.long c2), .second, .val (.int md), .val (.int v1), .val (.int v2), .val (.int v3), .val (.int v4), .val (.int j7), .val (.int v9), .val (.int v10), .val (.int v11), .val (.int v12), .val (.long j15), .second, .val (.ref o26), .val (.ref o33), .val (.ref b38), .unset, .unset, .unset]) rfl (XS.iload X42.here hx rfl (hb hby at_145) rfl (XS.iconst X42.here hx rfl (hb hby at_147) (XS.iushr X42.here hx rfl (hb hby at_148) rfl (XS.iconst X42.here hx rfl (hb hby at_149) (XS.iand X42.here hx rfl (hb hby at_150) rfl k)))))) ?_
  show Comes p e below _ (T42.setTop (mkF m 151 #[.val (.int s1), .val (.int s2), .val (.long c1), .second, .val (.long c2), .second, .val (.int md), .val (.int v1), .val (.int v2), .val (.int v3), .val (.int v4), .val (.int j7), .val (.int v9), .val (.int v10), .val (.int v11), .val (.int v12), .val (.long j15), .second, .val (.ref o26), .val (.ref o33), .val (.ref b38), .unset, .unset, .unset] [(.int (((md.toUInt32 >>> ((2 : Int32) &&& 31).toUInt32).toInt32) &&& (3 : Int32)))]))
  generalize hv_v44 : (((md.toUInt32 >>> ((2 : Int32) &&& 31).toUInt32).toInt32) &&& (3 : Int32)) = v44
  show Comes p e below _ (T42.setTop (mkF m 151 #[.val (.int s1), .val (.int s2), .val (.long c1), .second, .val (.long c2), .second, .val (.int md), .val (.int v1), .val (.int v2), .val (.int v3), .val (.int v4), .val (.int j7), .val (.int v9), .val (.int v10), .val (.int v11), .val (.int v12), .val (.long j15), .second, .val (.ref o26), .val (.ref o33), .val (.ref b38), .unset, .unset, .unset] [(.int v44)]))
  refine Comes.st (fun t k => XS.istore X42.here hx rfl (hb hby at_151) rfl (l' := #[.val (.int s1), .val (.int s2), .val (.long c1), .second, .val (.long c2), .second, .val (.int md), .val (.int v1), .val (.int v2), .val (.int v3), .val (.int v4), .val (.int j7), .val (.int v9), .val (.int v10), .val (.int v11), .val (.int v12), .val (.long j15), .second, .val (.ref o26), .val (.ref o33), .val (.ref b38), .val (.int v44), .unset, .unset]) rfl (XS.iload X42.here hx rfl (hb hby at_153) rfl k)) ?_
  show Comes p e below _ (T42.setTop (mkF m 155 #[.val (.int s1), .val (.int s2), .val (.long c1), .second, .val (.long c2), .second, .val (.int md), .val (.int v1), .val (.int v2), .val (.int v3), .val (.int v4), .val (.int j7), .val (.int v9), .val (.int v10), .val (.int v11), .val (.int v12), .val (.long j15), .second, .val (.ref o26), .val (.ref o33), .val (.ref b38), .val (.int v44), .unset, .unset] [(.int v44)]))
  by_cases hc155_45 : v44 = (0 : Int32)
  · refine Comes.st (fun t k => XS.ifNo X42.here hx rfl (hb hby at_155) rfl ((if0 _ _).trans (teq hc155_45).2) k) ?_
    show Comes p e below _ (T42.setTop (mkF m 158 #[.val (.int s1), .val (.int s2), .val (.long c1), .second, .val (.long c2), .second, .val (.int md), .val (.int v1), .val (.int v2), .val (.int v3), .val (.int v4), .val (.int j7), .val (.int v9), .val (.int v10), .val (.int v11), .val (.int v12), .val (.long j15), .second, .val (.ref o26), .val (.ref o33), .val (.ref b38), .val (.int v44), .unset, .unset] []))
    obtain ⟨T46, h46, X46, e46, E46, A46, D46, -, st46⟩ := newO X42 hx hZ hown (hw _ (List.mem_of_getElem? (i := 37) rfl)) (hw _ (List.mem_of_getElem? (i := 38) rfl)) (hw _ (List.mem_of_getElem? (i := 39) rfl)) rfl (g := (mkF m 158 #[.val (.int s1), .val (.int s2), .val (.long c1), .second, .val (.long c2), .second, .val (.int md), .val (.int v1), .val (.int v2), .val (.int v3), .val (.int v4), .val (.int j7), .val (.int v9), .val (.int v10), .val (.int v11), .val (.int v12), .val (.long j15), .second, .val (.ref o26), .val (.ref o33), .val (.ref b38), .val (.int v44), .unset, .unset] [])) rfl (hb hby at_158) (by decide) (by decide)
    obtain ⟨b46, g46⟩ : ∃ z, z = T42.heap.size := ⟨_, rfl⟩
    rw [← g46] at A46 D46 st46
    have z46 : T42.heap.size ≤ h46.size := E46.1
    have lt46 : b46 < h46.size := A46.lt
    have F47 : Fld Z h46 b46 "com/example/soft_throttle/softthrottle/usage/RequestCount" "request" "Ljava/lang/String;" .null := D46 (Or.inr (hw _ (List.mem_of_getElem? (i := 51) rfl))) (ty := (.object "java/lang/String")) (by decide)
    have F48 : Fld Z h46 b46 "com/example/soft_throttle/softthrottle/usage/RequestCount" "count" "J" (.long (0 : Int64)) := D46 (Or.inr (hw _ (List.mem_of_getElem? (i := 53) rfl))) (ty := .long) (by decide)
    refine Comes.st st46 ?_
    show Comes p e below _ (T46.setTop (mkF m 161 #[.val (.int s1), .val (.int s2), .val (.long c1), .second, .val (.long c2), .second, .val (.int md), .val (.int v1), .val (.int v2), .val (.int v3), .val (.int v4), .val (.int j7), .val (.int v9), .val (.int v10), .val (.int v11), .val (.int v12), .val (.long j15), .second, .val (.ref o26), .val (.ref o33), .val (.ref b38), .val (.int v44), .unset, .unset] [(.ref b46)]))
    refine Comes.st (fun t k => XS.dup X46.here hx rfl (hb hby at_161) rfl rfl (XS.aload X46.here hx rfl (hb hby at_162) rfl rfl (XS.lload X46.here hx rfl (hb hby at_164) rfl k))) ?_
    show Comes p e below _ (T46.setTop (mkF m 166 #[.val (.int s1), .val (.int s2), .val (.long c1), .second, .val (.long c2), .second, .val (.int md), .val (.int v1), .val (.int v2), .val (.int v3), .val (.int v4), .val (.int j7), .val (.int v9), .val (.int v10), .val (.int v11), .val (.int v12), .val (.long j15), .second, .val (.ref o26), .val (.ref o33), .val (.ref b38), .val (.int v44), .unset, .unset] [(.long j15), (.ref o33), (.ref b46), (.ref b46)]))
    have F49 : Exa Z h46 o33 "java/lang/String" := (((P32_0.ext E38).keep Kq42).ext E46)
    obtain ⟨_, _, ⟨T50, L50, k50, n50⟩, -, X50, hSc50, hgr50, ⟨Lc50, hQ50, l50, y50, z50⟩, st50⟩ := X46.specialBackS hx (y := (⟨"com/example/soft_throttle/softthrottle/usage/RequestCount", "<init>", "(Ljava/lang/String;J)V"⟩ : MethodName)) rfl hown (mvT hZ (hw _ (List.mem_of_getElem? (i := 40) rfl))) (mvT hZ (hw _ (List.mem_of_getElem? (i := 41) rfl))) (mvT hZ (hw _ (List.mem_of_getElem? (i := 42) rfl))) (by decide) (backOfS (W := 1) (rm8 l Z a0 hw [] b46 o33 j15 h46 n0 (by omega)  A46 F47 F48 F49 (by omega)) hZ (hw _ (List.mem_of_getElem? (i := 42) rfl)) (hw _ (List.mem_of_getElem? (i := 39) rfl)) (by decide) (by decide)) (g := (mkF m 166 #[.val (.int s1), .val (.int s2), .val (.long c1), .second, .val (.long c2), .second, .val (.int md), .val (.int v1), .val (.int v2), .val (.int v3), .val (.int v4), .val (.int j7), .val (.int v9), .val (.int v10), .val (.int v11), .val (.int v12), .val (.long j15), .second, .val (.ref o26), .val (.ref o33), .val (.ref b38), .val (.int v44), .unset, .unset] [(.long j15), (.ref o33), (.ref b46), (.ref b46)])) rfl (by rw [hml]; rfl) (Steps.refl _) (a := b46) (argsL := [(.ref o33), (.long j15)]) (rest := [(.ref b46)]) (lenOf pd_9 rfl) rfl (by show 2 * 0 + _ ≤ _; exact Nat.le_of_eq rfl) (hb hby at_166) (fun _ _ => ⟨rfl, e46, (by decide : 16 + 2 ≤ _), (by decide : 60 + 32 ≤ _)⟩)
    dsimp only [Pt.U, Pt.locs, Pt.cells, Pt.slots] at X50 hSc50 hgr50 l50 y50 z50 st50 hQ50
    have hS50 : s.Since T50.vm T50.heap.size := foldS (T := T46) hS42 (by rw [e46]; omega) hSc50 hgr50
    have hZ : Z.Warmed39 (s.setVm T50.vm).vm := State.Warmed39.trans (t := s.setVm T42.vm) hZ hSc50.1
    have hown : (s.setVm T50.vm).vm.findClass "com/example/soft_throttle/softthrottle/usage/RequestCountEqualsPinLaw" = some m.cls := by rw [show (s.setVm T50.vm).vm = T50.vm from rfl, hSc50.1.alike.findClass]; exact hown
    have X50 := own_rebase X50
    subst l50 y50 z50
    obtain ⟨rfl, Nq50, Kq50, P50_0, P50_1, P50_2⟩ := hQ50
    have N50 := Fr.app N42 Nq50
    have z50k : h46.size ≤ T50.heap.size := Kq50.1
    refine Comes.go st50 ?_
    have lt_51 : b46 < T50.heap.size := P50_0.lt
    show Comes p e below _ (T50.setTop (mkF m 169 #[.val (.int s1), .val (.int s2), .val (.long c1), .second, .val (.long c2), .second, .val (.int md), .val (.int v1), .val (.int v2), .val (.int v3), .val (.int v4), .val (.int j7), .val (.int v9), .val (.int v10), .val (.int v11), .val (.int v12), .val (.long j15), .second, .val (.ref o26), .val (.ref o33), .val (.ref b38), .val (.int v44), .unset, .unset] [(.ref b46)]))
    refine Comes.st (fun t k => XS.astore X50.here hx rfl (hb hby at_169) rfl rfl (l' := #[.val (.int s1), .val (.int s2), .val (.long c1), .second, .val (.long c2), .second, .val (.int md), .val (.int v1), .val (.int v2), .val (.int v3), .val (.int v4), .val (.int j7), .val (.int v9), .val (.int v10), .val (.int v11), .val (.int v12), .val (.long j15), .second, .val (.ref o26), .val (.ref o33), .val (.ref b38), .val (.int v44), .val (.ref b46), .unset]) rfl (XS.iload X50.here hx rfl (hb hby at_171) rfl (XS.iload X50.here hx rfl (hb hby at_173) rfl (XS.iload X50.here hx rfl (hb hby at_175) rfl (XS.iload X50.here hx rfl (hb hby at_177) rfl (XS.iload X50.here hx rfl (hb hby at_179) rfl k)))))) ?_
    show Comes p e below _ (T50.setTop (mkF m 181 #[.val (.int s1), .val (.int s2), .val (.long c1), .second, .val (.long c2), .second, .val (.int md), .val (.int v1), .val (.int v2), .val (.int v3), .val (.int v4), .val (.int j7), .val (.int v9), .val (.int v10), .val (.int v11), .val (.int v12), .val (.long j15), .second, .val (.ref o26), .val (.ref o33), .val (.ref b38), .val (.int v44), .val (.ref b46), .unset] [(.int v9), (.int v4), (.int v3), (.int v2), (.int v1)]))
    refine Comes.st (fun t k => XS.iload X50.here hx rfl (hb hby at_181) rfl (XS.iload X50.here hx rfl (hb hby at_183) rfl (XS.iload X50.here hx rfl (hb hby at_185) rfl k))) ?_
    show Comes p e below _ (T50.setTop (mkF m 187 #[.val (.int s1), .val (.int s2), .val (.long c1), .second, .val (.long c2), .second, .val (.int md), .val (.int v1), .val (.int v2), .val (.int v3), .val (.int v4), .val (.int j7), .val (.int v9), .val (.int v10), .val (.int v11), .val (.int v12), .val (.long j15), .second, .val (.ref o26), .val (.ref o33), .val (.ref b38), .val (.int v44), .val (.ref b46), .unset] [(.int v12), (.int v11), (.int v10), (.int v9), (.int v4), (.int v3), (.int v2), (.int v1)]))
    obtain ⟨_, _, ⟨T52, L52, k52, n52⟩, -, X52, ⟨Lc52, hQ52, l52, y52, z52⟩, st52⟩ := Jvm.LawKit.callS X50 hx (y := (⟨"com/example/soft_throttle/softthrottle/usage/RequestCountEqualsPinLaw", "sameText", "(ICCCICCC)Z"⟩ : MethodName)) hown (mvT hZ (hw _ (List.mem_of_getElem? (i := 54) rfl))) (mvT hZ (hw _ (List.mem_of_getElem? (i := 55) rfl))) (mvT hZ (hw _ (List.mem_of_getElem? (i := 2) rfl))) (mvT hZ (hw _ (List.mem_of_getElem? (i := 56) rfl))) (by decide) (backOf (W := 0) (rm10 l Z a0 hw [] v1 v2 v3 v4 v9 v10 v11 v12 T50.heap n0 (by omega)  ) hZ (hw _ (List.mem_of_getElem? (i := 56) rfl)) (hw _ (List.mem_of_getElem? (i := 2) rfl)) (by decide) (by decide)) (g := (mkF m 187 #[.val (.int s1), .val (.int s2), .val (.long c1), .second, .val (.long c2), .second, .val (.int md), .val (.int v1), .val (.int v2), .val (.int v3), .val (.int v4), .val (.int j7), .val (.int v9), .val (.int v10), .val (.int v11), .val (.int v12), .val (.long j15), .second, .val (.ref o26), .val (.ref o33), .val (.ref b38), .val (.int v44), .val (.ref b46), .unset] [(.int v12), (.int v11), (.int v10), (.int v9), (.int v4), (.int v3), (.int v2), (.int v1)])) rfl (by rw [hml]; rfl) (argsL := [(.int v1), (.int v2), (.int v3), (.int v4), (.int v9), (.int v10), (.int v11), (.int v12)]) (rest := []) (lenOf pd_10 rfl) rfl (by show 2 * 0 + _ ≤ _; exact Nat.le_of_eq rfl) (hb hby at_187) (fun _ _ => ⟨rfl, rfl, (by decide : 18 + 0 ≤ _), (by decide : 92 + 0 ≤ _)⟩)
    dsimp only [Pt.U, Pt.locs, Pt.cells, Pt.slots] at X52 l52 y52 z52 st52 hQ52
    subst l52 y52 z52
    obtain ⟨r53, rfl, Nq52, hs52, P52_0⟩ := hQ52
    have N52 := Fr.app N50 Nq52
    refine Comes.st st52 ?_
    have hsp54 : r53 = (0 : Int32) ∨ r53 = (1 : Int32) := by exact own_eqs01 P52_0
    rcases hsp54 with rfl | rfl
    · show Comes p e below _ (T52.setTop (mkF m 190 #[.val (.int s1), .val (.int s2), .val (.long c1), .second, .val (.long c2), .second, .val (.int md), .val (.int v1), .val (.int v2), .val (.int v3), .val (.int v4), .val (.int j7), .val (.int v9), .val (.int v10), .val (.int v11), .val (.int v12), .val (.long j15), .second, .val (.ref o26), .val (.ref o33), .val (.ref b38), .val (.int v44), .val (.ref b46), .unset] [(.int (0 : Int32))]))
      have hc190_55 : (0 : Int32) = (0 : Int32) := by decide
      refine Comes.st (fun t k => XS.ifYes X52.here hx rfl (pc0 := 190) (pc' := 204) rfl (hb hby at_190) rfl ((if0 _ _).trans (teq hc190_55).1) (by decide) (by decide) k) ?_
      show Comes p e below _ (T52.setTop (mkF m 204 #[.val (.int s1), .val (.int s2), .val (.long c1), .second, .val (.long c2), .second, .val (.int md), .val (.int v1), .val (.int v2), .val (.int v3), .val (.int v4), .val (.int j7), .val (.int v9), .val (.int v10), .val (.int v11), .val (.int v12), .val (.long j15), .second, .val (.ref o26), .val (.ref o33), .val (.ref b38), .val (.int v44), .val (.ref b46), .unset] []))
      refine Comes.st (fun t k => XS.iconst X52.here hx rfl (hb hby at_204) (XS.istore X52.here hx rfl (hb hby at_205) rfl (l' := #[.val (.int s1), .val (.int s2), .val (.long c1), .second, .val (.long c2), .second, .val (.int md), .val (.int v1), .val (.int v2), .val (.int v3), .val (.int v4), .val (.int j7), .val (.int v9), .val (.int v10), .val (.int v11), .val (.int v12), .val (.long j15), .second, .val (.ref o26), .val (.ref o33), .val (.ref b38), .val (.int v44), .val (.ref b46), .val (.int (0 : Int32))]) rfl (XS.aload X52.here hx rfl (hb hby at_207) rfl rfl (XS.aload X52.here hx rfl (hb hby at_209) rfl rfl k)))) ?_
      show Comes p e below _ (T52.setTop (mkF m 211 #[.val (.int s1), .val (.int s2), .val (.long c1), .second, .val (.long c2), .second, .val (.int md), .val (.int v1), .val (.int v2), .val (.int v3), .val (.int v4), .val (.int j7), .val (.int v9), .val (.int v10), .val (.int v11), .val (.int v12), .val (.long j15), .second, .val (.ref o26), .val (.ref o33), .val (.ref b38), .val (.int v44), .val (.ref b46), .val (.int (0 : Int32))] [(.ref b46), (.ref b38)]))
      have F56 : Exa Z T50.heap b38 "com/example/soft_throttle/softthrottle/usage/RequestCount" := ((P42_0.ext E46).keep Kq50)
      have ne57 : b38 ≠ b46 := by omega
      have F58 : Fld Z T50.heap b38 "com/example/soft_throttle/softthrottle/usage/RequestCount" "request" "Ljava/lang/String;" (.ref o26) := ((P42_1.ext E46).keep Kq50 (ninS ne57 nin0))
      have F59 : Fld Z T50.heap b38 "com/example/soft_throttle/softthrottle/usage/RequestCount" "count" "J" (.long c1) := ((P42_2.ext E46).keep Kq50 (ninS ne57 nin0))
      have F60 : Exa Z T50.heap o26 "java/lang/String" := (((F41.keep Kq42).ext E46).keep Kq50)
      have ne61 : o26 ≠ b38 := by omega
      have ne62 : o26 ≠ b46 := by omega
      have F63 : Fld Z T50.heap o26 "java/lang/String" "value" "[B" (.ref o27) := (((((P25_1.keep Kq32 nin0).ext E38).keep Kq42 (ninS ne61 nin0)).ext E46).keep Kq50 (ninS ne62 nin0))
      have F64 : Fld Z T50.heap o26 "java/lang/String" "coder" "B" (.int (0 : Int32)) := (((((P25_2.keep Kq32 nin0).ext E38).keep Kq42 (ninS ne61 nin0)).ext E46).keep Kq50 (ninS ne62 nin0))
      have ne65 : o27 ≠ b38 := by omega
      have ne66 : o27 ≠ b46 := by omega
      have F67 : Arv Z T50.heap o27 r28 .byte v1 (own_bs v1 (nar .byte ((nar .char v2).toInt8.toInt32)) (nar .byte ((nar .char v3).toInt8.toInt32)) (nar .byte ((nar .char v4).toInt8.toInt32))) (.int (0 : Int32)) := (((((P25_3.keep Kq32 nin0).ext E38).keep Kq42 (ninS ne65 nin0)).ext E46).keep Kq50 (ninS ne66 nin0))
      have F68 : Exa Z T50.heap o33 "java/lang/String" := (F49.keep Kq50)
      have ne69 : o33 ≠ b38 := by omega
      have ne70 : o33 ≠ b46 := by omega
      have F71 : Fld Z T50.heap o33 "java/lang/String" "value" "[B" (.ref o34) := ((((P32_1.ext E38).keep Kq42 (ninS ne69 nin0)).ext E46).keep Kq50 (ninS ne70 nin0))
      have F72 : Fld Z T50.heap o33 "java/lang/String" "coder" "B" (.int (0 : Int32)) := ((((P32_2.ext E38).keep Kq42 (ninS ne69 nin0)).ext E46).keep Kq50 (ninS ne70 nin0))
      have ne73 : o34 ≠ b38 := by omega
      have ne74 : o34 ≠ b46 := by omega
      have F75 : Arv Z T50.heap o34 r35 .byte v9 (own_bs v9 (nar .byte ((nar .char v10).toInt8.toInt32)) (nar .byte ((nar .char v11).toInt8.toInt32)) (nar .byte ((nar .char v12).toInt8.toInt32))) (.int (0 : Int32)) := ((((P32_3.ext E38).keep Kq42 (ninS ne73 nin0)).ext E46).keep Kq50 (ninS ne74 nin0))
      have Od76 : Old Z n0 T50.heap := (((((Od31.keep Kq32 all0).ext E38).keep Kq42 (allS (by omega) all0)).ext E46).keep Kq50 (allS (by omega) all0))
      have ne77 : o26 ≠ o33 := by omega
      obtain ⟨cq78, kq78, q78a, q78b, q78c⟩ := isOf hZ hs52 F56
      obtain ⟨_, _, ⟨T78, L78, k78, n78⟩, -, X78, ⟨Lc78, hQ78, l78, y78, z78⟩, st78⟩ := X52.virtualBack hx (y := (⟨"com/example/soft_throttle/softthrottle/usage/RequestCount", "equals", "(Ljava/lang/Object;)Z"⟩ : MethodName)) (z := (⟨"com/example/soft_throttle/softthrottle/usage/RequestCount", "equals", "(Ljava/lang/Object;)Z"⟩ : MethodName)) hown (mvT hZ (hw _ (List.mem_of_getElem? (i := 57) rfl))) (mvT hZ (hw _ (List.mem_of_getElem? (i := 58) rfl))) (notFace_of_selects (args := #[]) (mvT hZ (hw _ (List.mem_of_getElem? (i := 60) rfl)))) (mvT hZ (hw _ (List.mem_of_getElem? (i := 60) rfl))) (mvT hZ (hw _ (List.mem_of_getElem? (i := 59) rfl))) (by decide) (backOf (W := 0) (reN l Z a0 hw [] b38 b46 o26 o33 c1 j15 o27 o34 r28 r35 v1 v9 ((nar .byte ((nar .char v2).toInt8.toInt32))) ((nar .byte ((nar .char v3).toInt8.toInt32))) ((nar .byte ((nar .char v4).toInt8.toInt32))) ((nar .byte ((nar .char v10).toInt8.toInt32))) ((nar .byte ((nar .char v11).toInt8.toInt32))) ((nar .byte ((nar .char v12).toInt8.toInt32))) cs T50.heap n0 (by omega)  F56 F58 F59 P50_0 P50_1 P50_2 F60 F63 F64 F67 (by first | assumption | omega) F68 F71 F72 F75 (by first | assumption | omega) G0 (by first | assumption | omega) Od76 ne77) hZ (hw _ (List.mem_of_getElem? (i := 61) rfl)) (hw _ (List.mem_of_getElem? (i := 39) rfl)) (by decide) (by decide)) q78a q78c (g := (mkF m 211 #[.val (.int s1), .val (.int s2), .val (.long c1), .second, .val (.long c2), .second, .val (.int md), .val (.int v1), .val (.int v2), .val (.int v3), .val (.int v4), .val (.int j7), .val (.int v9), .val (.int v10), .val (.int v11), .val (.int v12), .val (.long j15), .second, .val (.ref o26), .val (.ref o33), .val (.ref b38), .val (.int v44), .val (.ref b46), .val (.int (0 : Int32))] [(.ref b46), (.ref b38)])) rfl (by rw [hml]; rfl) (Steps.refl _) (argsL := [(.ref b46)]) (rest := []) (lenOf pd_7 rfl) rfl (by show 2 * 0 + _ ≤ _; exact Nat.le_of_eq rfl) (hb hby at_211) (fun _ _ => ⟨rfl, hs52, (by decide : 18 + 0 ≤ _), (by decide : 92 + 0 ≤ _)⟩)
      dsimp only [Pt.U, Pt.locs, Pt.cells, Pt.slots] at X78 l78 y78 z78 st78 hQ78
      subst l78 y78 z78
      obtain ⟨r79, rfl, Nq78, hs78, P78_0⟩ := hQ78
      have N78 := Fr.app N52 Nq78
      refine Comes.go st78 ?_
      show Comes p e below _ (T78.setTop (mkF m 214 #[.val (.int s1), .val (.int s2), .val (.long c1), .second, .val (.long c2), .second, .val (.int md), .val (.int v1), .val (.int v2), .val (.int v3), .val (.int v4), .val (.int j7), .val (.int v9), .val (.int v10), .val (.int v11), .val (.int v12), .val (.long j15), .second, .val (.ref o26), .val (.ref o33), .val (.ref b38), .val (.int v44), .val (.ref b46), .val (.int (0 : Int32))] [(.int r79)]))
      refine Comes.st (fun t k => XS.iload X78.here hx rfl (hb hby at_214) rfl k) ?_
      show Comes p e below _ (T78.setTop (mkF m 216 #[.val (.int s1), .val (.int s2), .val (.long c1), .second, .val (.long c2), .second, .val (.int md), .val (.int v1), .val (.int v2), .val (.int v3), .val (.int v4), .val (.int j7), .val (.int v9), .val (.int v10), .val (.int v11), .val (.int v12), .val (.long j15), .second, .val (.ref o26), .val (.ref o33), .val (.ref b38), .val (.int v44), .val (.ref b46), .val (.int (0 : Int32))] [(.int (0 : Int32)), (.int r79)]))
      have hc216_80 : r79 = (0 : Int32) := by first | exact (own_fin bd17 bd18 bd19 bd20 bd21 bd22 P78_0 P52_0).2.1 rfl | exact (own_fin bd17 bd18 bd19 bd20 bd21 bd22 P78_0 P52_0).2.2 (by assumption)
      refine Comes.st (fun t k => XS.icmpNo X78.here hx rfl (hb hby at_216) rfl (teq hc216_80).2 (XS.aload X78.here hx rfl (hb hby at_219) rfl rfl (XS.aload X78.here hx rfl (hb hby at_221) rfl rfl k))) ?_
      show Comes p e below _ (T78.setTop (mkF m 223 #[.val (.int s1), .val (.int s2), .val (.long c1), .second, .val (.long c2), .second, .val (.int md), .val (.int v1), .val (.int v2), .val (.int v3), .val (.int v4), .val (.int j7), .val (.int v9), .val (.int v10), .val (.int v11), .val (.int v12), .val (.long j15), .second, .val (.ref o26), .val (.ref o33), .val (.ref b38), .val (.int v44), .val (.ref b46), .val (.int (0 : Int32))] [(.ref b38), (.ref b46)]))
      obtain ⟨cq81, kq81, q81a, q81b, q81c⟩ := isOf hZ hs78 P50_0
      obtain ⟨_, _, ⟨T81, L81, k81, n81⟩, -, X81, ⟨Lc81, hQ81, l81, y81, z81⟩, st81⟩ := X78.virtualBack hx (y := (⟨"com/example/soft_throttle/softthrottle/usage/RequestCount", "equals", "(Ljava/lang/Object;)Z"⟩ : MethodName)) (z := (⟨"com/example/soft_throttle/softthrottle/usage/RequestCount", "equals", "(Ljava/lang/Object;)Z"⟩ : MethodName)) hown (mvT hZ (hw _ (List.mem_of_getElem? (i := 57) rfl))) (mvT hZ (hw _ (List.mem_of_getElem? (i := 58) rfl))) (notFace_of_selects (args := #[]) (mvT hZ (hw _ (List.mem_of_getElem? (i := 60) rfl)))) (mvT hZ (hw _ (List.mem_of_getElem? (i := 60) rfl))) (mvT hZ (hw _ (List.mem_of_getElem? (i := 59) rfl))) (by decide) (backOf (W := 0) (reN l Z a0 hw [] b46 b38 o33 o26 j15 c1 o34 o27 r35 r28 v9 v1 ((nar .byte ((nar .char v10).toInt8.toInt32))) ((nar .byte ((nar .char v11).toInt8.toInt32))) ((nar .byte ((nar .char v12).toInt8.toInt32))) ((nar .byte ((nar .char v2).toInt8.toInt32))) ((nar .byte ((nar .char v3).toInt8.toInt32))) ((nar .byte ((nar .char v4).toInt8.toInt32))) cs T50.heap n0 (by omega)  P50_0 P50_1 P50_2 F56 F58 F59 F68 F71 F72 F75 (by first | assumption | omega) F60 F63 F64 F67 (by first | assumption | omega) G0 (by first | assumption | omega) Od76 (Ne.symm ne77)) hZ (hw _ (List.mem_of_getElem? (i := 61) rfl)) (hw _ (List.mem_of_getElem? (i := 39) rfl)) (by decide) (by decide)) q81a q81c (g := (mkF m 223 #[.val (.int s1), .val (.int s2), .val (.long c1), .second, .val (.long c2), .second, .val (.int md), .val (.int v1), .val (.int v2), .val (.int v3), .val (.int v4), .val (.int j7), .val (.int v9), .val (.int v10), .val (.int v11), .val (.int v12), .val (.long j15), .second, .val (.ref o26), .val (.ref o33), .val (.ref b38), .val (.int v44), .val (.ref b46), .val (.int (0 : Int32))] [(.ref b38), (.ref b46)])) rfl (by rw [hml]; rfl) (Steps.refl _) (argsL := [(.ref b38)]) (rest := []) (lenOf pd_7 rfl) rfl (by show 2 * 0 + _ ≤ _; exact Nat.le_of_eq rfl) (hb hby at_223) (fun _ _ => ⟨rfl, hs78, (by decide : 18 + 0 ≤ _), (by decide : 92 + 0 ≤ _)⟩)
      dsimp only [Pt.U, Pt.locs, Pt.cells, Pt.slots] at X81 l81 y81 z81 st81 hQ81
      subst l81 y81 z81
      obtain ⟨r82, rfl, Nq81, hs81, P81_0⟩ := hQ81
      have N81 := Fr.app N78 Nq81
      refine Comes.go st81 ?_
      show Comes p e below _ (T81.setTop (mkF m 226 #[.val (.int s1), .val (.int s2), .val (.long c1), .second, .val (.long c2), .second, .val (.int md), .val (.int v1), .val (.int v2), .val (.int v3), .val (.int v4), .val (.int j7), .val (.int v9), .val (.int v10), .val (.int v11), .val (.int v12), .val (.long j15), .second, .val (.ref o26), .val (.ref o33), .val (.ref b38), .val (.int v44), .val (.ref b46), .val (.int (0 : Int32))] [(.int r82)]))
      refine Comes.st (fun t k => XS.iload X81.here hx rfl (hb hby at_226) rfl k) ?_
      show Comes p e below _ (T81.setTop (mkF m 228 #[.val (.int s1), .val (.int s2), .val (.long c1), .second, .val (.long c2), .second, .val (.int md), .val (.int v1), .val (.int v2), .val (.int v3), .val (.int v4), .val (.int j7), .val (.int v9), .val (.int v10), .val (.int v11), .val (.int v12), .val (.long j15), .second, .val (.ref o26), .val (.ref o33), .val (.ref b38), .val (.int v44), .val (.ref b46), .val (.int (0 : Int32))] [(.int (0 : Int32)), (.int r82)]))
      have hc228_83 : r82 = (0 : Int32) := by first | exact (own_fin bd17 bd18 bd19 bd20 bd21 bd22 (own_ans_symm P81_0) P52_0).2.1 rfl | exact (own_fin bd17 bd18 bd19 bd20 bd21 bd22 (own_ans_symm P81_0) P52_0).2.2 (by assumption)
      refine Comes.st (fun t k => XS.icmpNo X81.here hx rfl (hb hby at_228) rfl (teq hc228_83).2 (XS.iconst X81.here hx rfl (hb hby at_231) (XS.goto X81.here hx rfl (pc0 := 232) (pc' := 236) rfl (hb hby at_232) (by decide) (by decide) k))) ?_
      show Comes p e below _ (T81.setTop (mkF m 236 #[.val (.int s1), .val (.int s2), .val (.long c1), .second, .val (.long c2), .second, .val (.int md), .val (.int v1), .val (.int v2), .val (.int v3), .val (.int v4), .val (.int j7), .val (.int v9), .val (.int v10), .val (.int v11), .val (.int v12), .val (.long j15), .second, .val (.ref o26), .val (.ref o33), .val (.ref b38), .val (.int v44), .val (.ref b46), .val (.int (0 : Int32))] [(.int (1 : Int32))]))
      have hkf : T50.heap.size ≤ T50.heap.size := by omega
      exact Comes.wretN X81 hx (t := .boolean) Bd.returns (by simp) hlk (hb hby at_236) hS50 hkf hs81 ⟨rfl, N81⟩ (by decide) (by decide)
    · show Comes p e below _ (T52.setTop (mkF m 190 #[.val (.int s1), .val (.int s2), .val (.long c1), .second, .val (.long c2), .second, .val (.int md), .val (.int v1), .val (.int v2), .val (.int v3), .val (.int v4), .val (.int j7), .val (.int v9), .val (.int v10), .val (.int v11), .val (.int v12), .val (.long j15), .second, .val (.ref o26), .val (.ref o33), .val (.ref b38), .val (.int v44), .val (.ref b46), .unset] [(.int (1 : Int32))]))
      have hc190_84 : ¬ ((1 : Int32) = (0 : Int32)) := by decide
      refine Comes.st (fun t k => XS.ifNo X52.here hx rfl (hb hby at_190) rfl ((if0 _ _).trans (feq hc190_84).1) (XS.lloadN X52.here hx rfl (hb hby at_193) rfl (XS.lload X52.here hx rfl (hb hby at_194) rfl (XS.lcmp X52.here hx rfl (hb hby at_196) rfl k)))) ?_
      show Comes p e below _ (T52.setTop (mkF m 197 #[.val (.int s1), .val (.int s2), .val (.long c1), .second, .val (.long c2), .second, .val (.int md), .val (.int v1), .val (.int v2), .val (.int v3), .val (.int v4), .val (.int j7), .val (.int v9), .val (.int v10), .val (.int v11), .val (.int v12), .val (.long j15), .second, .val (.ref o26), .val (.ref o33), .val (.ref b38), .val (.int v44), .val (.ref b46), .unset] [(.int (lcmpW c1 j15))]))
      by_cases hc197_85 : c1 = j15
      · refine Comes.st (fun t k => XS.ifNo X52.here hx rfl (hb hby at_197) rfl ((if0 _ _).trans (teq ((lw_eq _ _).mpr hc197_85)).2) k) ?_
        show Comes p e below _ (T52.setTop (mkF m 200 #[.val (.int s1), .val (.int s2), .val (.long c1), .second, .val (.long c2), .second, .val (.int md), .val (.int v1), .val (.int v2), .val (.int v3), .val (.int v4), .val (.int j7), .val (.int v9), .val (.int v10), .val (.int v11), .val (.int v12), .val (.long j15), .second, .val (.ref o26), .val (.ref o33), .val (.ref b38), .val (.int v44), .val (.ref b46), .unset] []))
        refine Comes.st (fun t k => XS.iconst X52.here hx rfl (hb hby at_200) (XS.goto X52.here hx rfl (pc0 := 201) (pc' := 205) rfl (hb hby at_201) (by decide) (by decide) (XS.istore X52.here hx rfl (hb hby at_205) rfl (l' := #[.val (.int s1), .val (.int s2), .val (.long c1), .second, .val (.long c2), .second, .val (.int md), .val (.int v1), .val (.int v2), .val (.int v3), .val (.int v4), .val (.int j7), .val (.int v9), .val (.int v10), .val (.int v11), .val (.int v12), .val (.long j15), .second, .val (.ref o26), .val (.ref o33), .val (.ref b38), .val (.int v44), .val (.ref b46), .val (.int (1 : Int32))]) rfl (XS.aload X52.here hx rfl (hb hby at_207) rfl rfl (XS.aload X52.here hx rfl (hb hby at_209) rfl rfl k))))) ?_
        show Comes p e below _ (T52.setTop (mkF m 211 #[.val (.int s1), .val (.int s2), .val (.long c1), .second, .val (.long c2), .second, .val (.int md), .val (.int v1), .val (.int v2), .val (.int v3), .val (.int v4), .val (.int j7), .val (.int v9), .val (.int v10), .val (.int v11), .val (.int v12), .val (.long j15), .second, .val (.ref o26), .val (.ref o33), .val (.ref b38), .val (.int v44), .val (.ref b46), .val (.int (1 : Int32))] [(.ref b46), (.ref b38)]))
        have F86 : Exa Z T50.heap b38 "com/example/soft_throttle/softthrottle/usage/RequestCount" := ((P42_0.ext E46).keep Kq50)
        have ne87 : b38 ≠ b46 := by omega
        have F88 : Fld Z T50.heap b38 "com/example/soft_throttle/softthrottle/usage/RequestCount" "request" "Ljava/lang/String;" (.ref o26) := ((P42_1.ext E46).keep Kq50 (ninS ne87 nin0))
        have F89 : Fld Z T50.heap b38 "com/example/soft_throttle/softthrottle/usage/RequestCount" "count" "J" (.long c1) := ((P42_2.ext E46).keep Kq50 (ninS ne87 nin0))
        have F90 : Exa Z T50.heap o26 "java/lang/String" := (((F41.keep Kq42).ext E46).keep Kq50)
        have ne91 : o26 ≠ b38 := by omega
        have ne92 : o26 ≠ b46 := by omega
        have F93 : Fld Z T50.heap o26 "java/lang/String" "value" "[B" (.ref o27) := (((((P25_1.keep Kq32 nin0).ext E38).keep Kq42 (ninS ne91 nin0)).ext E46).keep Kq50 (ninS ne92 nin0))
        have F94 : Fld Z T50.heap o26 "java/lang/String" "coder" "B" (.int (0 : Int32)) := (((((P25_2.keep Kq32 nin0).ext E38).keep Kq42 (ninS ne91 nin0)).ext E46).keep Kq50 (ninS ne92 nin0))
        have ne95 : o27 ≠ b38 := by omega
        have ne96 : o27 ≠ b46 := by omega
        have F97 : Arv Z T50.heap o27 r28 .byte v1 (own_bs v1 (nar .byte ((nar .char v2).toInt8.toInt32)) (nar .byte ((nar .char v3).toInt8.toInt32)) (nar .byte ((nar .char v4).toInt8.toInt32))) (.int (0 : Int32)) := (((((P25_3.keep Kq32 nin0).ext E38).keep Kq42 (ninS ne95 nin0)).ext E46).keep Kq50 (ninS ne96 nin0))
        have F98 : Exa Z T50.heap o33 "java/lang/String" := (F49.keep Kq50)
        have ne99 : o33 ≠ b38 := by omega
        have ne100 : o33 ≠ b46 := by omega
        have F101 : Fld Z T50.heap o33 "java/lang/String" "value" "[B" (.ref o34) := ((((P32_1.ext E38).keep Kq42 (ninS ne99 nin0)).ext E46).keep Kq50 (ninS ne100 nin0))
        have F102 : Fld Z T50.heap o33 "java/lang/String" "coder" "B" (.int (0 : Int32)) := ((((P32_2.ext E38).keep Kq42 (ninS ne99 nin0)).ext E46).keep Kq50 (ninS ne100 nin0))
        have ne103 : o34 ≠ b38 := by omega
        have ne104 : o34 ≠ b46 := by omega
        have F105 : Arv Z T50.heap o34 r35 .byte v9 (own_bs v9 (nar .byte ((nar .char v10).toInt8.toInt32)) (nar .byte ((nar .char v11).toInt8.toInt32)) (nar .byte ((nar .char v12).toInt8.toInt32))) (.int (0 : Int32)) := ((((P32_3.ext E38).keep Kq42 (ninS ne103 nin0)).ext E46).keep Kq50 (ninS ne104 nin0))
        have Od106 : Old Z n0 T50.heap := (((((Od31.keep Kq32 all0).ext E38).keep Kq42 (allS (by omega) all0)).ext E46).keep Kq50 (allS (by omega) all0))
        have ne107 : o26 ≠ o33 := by omega
        obtain ⟨cq108, kq108, q108a, q108b, q108c⟩ := isOf hZ hs52 F86
        obtain ⟨_, _, ⟨T108, L108, k108, n108⟩, -, X108, ⟨Lc108, hQ108, l108, y108, z108⟩, st108⟩ := X52.virtualBack hx (y := (⟨"com/example/soft_throttle/softthrottle/usage/RequestCount", "equals", "(Ljava/lang/Object;)Z"⟩ : MethodName)) (z := (⟨"com/example/soft_throttle/softthrottle/usage/RequestCount", "equals", "(Ljava/lang/Object;)Z"⟩ : MethodName)) hown (mvT hZ (hw _ (List.mem_of_getElem? (i := 57) rfl))) (mvT hZ (hw _ (List.mem_of_getElem? (i := 58) rfl))) (notFace_of_selects (args := #[]) (mvT hZ (hw _ (List.mem_of_getElem? (i := 60) rfl)))) (mvT hZ (hw _ (List.mem_of_getElem? (i := 60) rfl))) (mvT hZ (hw _ (List.mem_of_getElem? (i := 59) rfl))) (by decide) (backOf (W := 0) (reN l Z a0 hw [] b38 b46 o26 o33 c1 j15 o27 o34 r28 r35 v1 v9 ((nar .byte ((nar .char v2).toInt8.toInt32))) ((nar .byte ((nar .char v3).toInt8.toInt32))) ((nar .byte ((nar .char v4).toInt8.toInt32))) ((nar .byte ((nar .char v10).toInt8.toInt32))) ((nar .byte ((nar .char v11).toInt8.toInt32))) ((nar .byte ((nar .char v12).toInt8.toInt32))) cs T50.heap n0 (by omega)  F86 F88 F89 P50_0 P50_1 P50_2 F90 F93 F94 F97 (by first | assumption | omega) F98 F101 F102 F105 (by first | assumption | omega) G0 (by first | assumption | omega) Od106 ne107) hZ (hw _ (List.mem_of_getElem? (i := 61) rfl)) (hw _ (List.mem_of_getElem? (i := 39) rfl)) (by decide) (by decide)) q108a q108c (g := (mkF m 211 #[.val (.int s1), .val (.int s2), .val (.long c1), .second, .val (.long c2), .second, .val (.int md), .val (.int v1), .val (.int v2), .val (.int v3), .val (.int v4), .val (.int j7), .val (.int v9), .val (.int v10), .val (.int v11), .val (.int v12), .val (.long j15), .second, .val (.ref o26), .val (.ref o33), .val (.ref b38), .val (.int v44), .val (.ref b46), .val (.int (1 : Int32))] [(.ref b46), (.ref b38)])) rfl (by rw [hml]; rfl) (Steps.refl _) (argsL := [(.ref b46)]) (rest := []) (lenOf pd_7 rfl) rfl (by show 2 * 0 + _ ≤ _; exact Nat.le_of_eq rfl) (hb hby at_211) (fun _ _ => ⟨rfl, hs52, (by decide : 18 + 0 ≤ _), (by decide : 92 + 0 ≤ _)⟩)
        dsimp only [Pt.U, Pt.locs, Pt.cells, Pt.slots] at X108 l108 y108 z108 st108 hQ108
        subst l108 y108 z108
        obtain ⟨r109, rfl, Nq108, hs108, P108_0⟩ := hQ108
        have N108 := Fr.app N52 Nq108
        refine Comes.go st108 ?_
        show Comes p e below _ (T108.setTop (mkF m 214 #[.val (.int s1), .val (.int s2), .val (.long c1), .second, .val (.long c2), .second, .val (.int md), .val (.int v1), .val (.int v2), .val (.int v3), .val (.int v4), .val (.int j7), .val (.int v9), .val (.int v10), .val (.int v11), .val (.int v12), .val (.long j15), .second, .val (.ref o26), .val (.ref o33), .val (.ref b38), .val (.int v44), .val (.ref b46), .val (.int (1 : Int32))] [(.int r109)]))
        refine Comes.st (fun t k => XS.iload X108.here hx rfl (hb hby at_214) rfl k) ?_
        show Comes p e below _ (T108.setTop (mkF m 216 #[.val (.int s1), .val (.int s2), .val (.long c1), .second, .val (.long c2), .second, .val (.int md), .val (.int v1), .val (.int v2), .val (.int v3), .val (.int v4), .val (.int j7), .val (.int v9), .val (.int v10), .val (.int v11), .val (.int v12), .val (.long j15), .second, .val (.ref o26), .val (.ref o33), .val (.ref b38), .val (.int v44), .val (.ref b46), .val (.int (1 : Int32))] [(.int (1 : Int32)), (.int r109)]))
        have hc216_110 : r109 = (1 : Int32) := by exact (own_fin bd17 bd18 bd19 bd20 bd21 bd22 P108_0 P52_0).1 rfl (by assumption)
        refine Comes.st (fun t k => XS.icmpNo X108.here hx rfl (hb hby at_216) rfl (teq hc216_110).2 (XS.aload X108.here hx rfl (hb hby at_219) rfl rfl (XS.aload X108.here hx rfl (hb hby at_221) rfl rfl k))) ?_
        show Comes p e below _ (T108.setTop (mkF m 223 #[.val (.int s1), .val (.int s2), .val (.long c1), .second, .val (.long c2), .second, .val (.int md), .val (.int v1), .val (.int v2), .val (.int v3), .val (.int v4), .val (.int j7), .val (.int v9), .val (.int v10), .val (.int v11), .val (.int v12), .val (.long j15), .second, .val (.ref o26), .val (.ref o33), .val (.ref b38), .val (.int v44), .val (.ref b46), .val (.int (1 : Int32))] [(.ref b38), (.ref b46)]))
        obtain ⟨cq111, kq111, q111a, q111b, q111c⟩ := isOf hZ hs108 P50_0
        obtain ⟨_, _, ⟨T111, L111, k111, n111⟩, -, X111, ⟨Lc111, hQ111, l111, y111, z111⟩, st111⟩ := X108.virtualBack hx (y := (⟨"com/example/soft_throttle/softthrottle/usage/RequestCount", "equals", "(Ljava/lang/Object;)Z"⟩ : MethodName)) (z := (⟨"com/example/soft_throttle/softthrottle/usage/RequestCount", "equals", "(Ljava/lang/Object;)Z"⟩ : MethodName)) hown (mvT hZ (hw _ (List.mem_of_getElem? (i := 57) rfl))) (mvT hZ (hw _ (List.mem_of_getElem? (i := 58) rfl))) (notFace_of_selects (args := #[]) (mvT hZ (hw _ (List.mem_of_getElem? (i := 60) rfl)))) (mvT hZ (hw _ (List.mem_of_getElem? (i := 60) rfl))) (mvT hZ (hw _ (List.mem_of_getElem? (i := 59) rfl))) (by decide) (backOf (W := 0) (reN l Z a0 hw [] b46 b38 o33 o26 j15 c1 o34 o27 r35 r28 v9 v1 ((nar .byte ((nar .char v10).toInt8.toInt32))) ((nar .byte ((nar .char v11).toInt8.toInt32))) ((nar .byte ((nar .char v12).toInt8.toInt32))) ((nar .byte ((nar .char v2).toInt8.toInt32))) ((nar .byte ((nar .char v3).toInt8.toInt32))) ((nar .byte ((nar .char v4).toInt8.toInt32))) cs T50.heap n0 (by omega)  P50_0 P50_1 P50_2 F86 F88 F89 F98 F101 F102 F105 (by first | assumption | omega) F90 F93 F94 F97 (by first | assumption | omega) G0 (by first | assumption | omega) Od106 (Ne.symm ne107)) hZ (hw _ (List.mem_of_getElem? (i := 61) rfl)) (hw _ (List.mem_of_getElem? (i := 39) rfl)) (by decide) (by decide)) q111a q111c (g := (mkF m 223 #[.val (.int s1), .val (.int s2), .val (.long c1), .second, .val (.long c2), .second, .val (.int md), .val (.int v1), .val (.int v2), .val (.int v3), .val (.int v4), .val (.int j7), .val (.int v9), .val (.int v10), .val (.int v11), .val (.int v12), .val (.long j15), .second, .val (.ref o26), .val (.ref o33), .val (.ref b38), .val (.int v44), .val (.ref b46), .val (.int (1 : Int32))] [(.ref b38), (.ref b46)])) rfl (by rw [hml]; rfl) (Steps.refl _) (argsL := [(.ref b38)]) (rest := []) (lenOf pd_7 rfl) rfl (by show 2 * 0 + _ ≤ _; exact Nat.le_of_eq rfl) (hb hby at_223) (fun _ _ => ⟨rfl, hs108, (by decide : 18 + 0 ≤ _), (by decide : 92 + 0 ≤ _)⟩)
        dsimp only [Pt.U, Pt.locs, Pt.cells, Pt.slots] at X111 l111 y111 z111 st111 hQ111
        subst l111 y111 z111
        obtain ⟨r112, rfl, Nq111, hs111, P111_0⟩ := hQ111
        have N111 := Fr.app N108 Nq111
        refine Comes.go st111 ?_
        show Comes p e below _ (T111.setTop (mkF m 226 #[.val (.int s1), .val (.int s2), .val (.long c1), .second, .val (.long c2), .second, .val (.int md), .val (.int v1), .val (.int v2), .val (.int v3), .val (.int v4), .val (.int j7), .val (.int v9), .val (.int v10), .val (.int v11), .val (.int v12), .val (.long j15), .second, .val (.ref o26), .val (.ref o33), .val (.ref b38), .val (.int v44), .val (.ref b46), .val (.int (1 : Int32))] [(.int r112)]))
        refine Comes.st (fun t k => XS.iload X111.here hx rfl (hb hby at_226) rfl k) ?_
        show Comes p e below _ (T111.setTop (mkF m 228 #[.val (.int s1), .val (.int s2), .val (.long c1), .second, .val (.long c2), .second, .val (.int md), .val (.int v1), .val (.int v2), .val (.int v3), .val (.int v4), .val (.int j7), .val (.int v9), .val (.int v10), .val (.int v11), .val (.int v12), .val (.long j15), .second, .val (.ref o26), .val (.ref o33), .val (.ref b38), .val (.int v44), .val (.ref b46), .val (.int (1 : Int32))] [(.int (1 : Int32)), (.int r112)]))
        have hc228_113 : r112 = (1 : Int32) := by exact (own_fin bd17 bd18 bd19 bd20 bd21 bd22 (own_ans_symm P111_0) P52_0).1 rfl (by assumption)
        refine Comes.st (fun t k => XS.icmpNo X111.here hx rfl (hb hby at_228) rfl (teq hc228_113).2 (XS.iconst X111.here hx rfl (hb hby at_231) (XS.goto X111.here hx rfl (pc0 := 232) (pc' := 236) rfl (hb hby at_232) (by decide) (by decide) k))) ?_
        show Comes p e below _ (T111.setTop (mkF m 236 #[.val (.int s1), .val (.int s2), .val (.long c1), .second, .val (.long c2), .second, .val (.int md), .val (.int v1), .val (.int v2), .val (.int v3), .val (.int v4), .val (.int j7), .val (.int v9), .val (.int v10), .val (.int v11), .val (.int v12), .val (.long j15), .second, .val (.ref o26), .val (.ref o33), .val (.ref b38), .val (.int v44), .val (.ref b46), .val (.int (1 : Int32))] [(.int (1 : Int32))]))
        have hkf : T50.heap.size ≤ T50.heap.size := by omega
        exact Comes.wretN X111 hx (t := .boolean) Bd.returns (by simp) hlk (hb hby at_236) hS50 hkf hs111 ⟨rfl, N111⟩ (by decide) (by decide)
      · refine Comes.st (fun t k => XS.ifYes X52.here hx rfl (pc0 := 197) (pc' := 204) rfl (hb hby at_197) rfl ((if0 _ _).trans (feq (fun q => hc197_85 ((lw_eq _ _).mp q))).2) (by decide) (by decide) k) ?_
        show Comes p e below _ (T52.setTop (mkF m 204 #[.val (.int s1), .val (.int s2), .val (.long c1), .second, .val (.long c2), .second, .val (.int md), .val (.int v1), .val (.int v2), .val (.int v3), .val (.int v4), .val (.int j7), .val (.int v9), .val (.int v10), .val (.int v11), .val (.int v12), .val (.long j15), .second, .val (.ref o26), .val (.ref o33), .val (.ref b38), .val (.int v44), .val (.ref b46), .unset] []))
        refine Comes.st (fun t k => XS.iconst X52.here hx rfl (hb hby at_204) (XS.istore X52.here hx rfl (hb hby at_205) rfl (l' := #[.val (.int s1), .val (.int s2), .val (.long c1), .second, .val (.long c2), .second, .val (.int md), .val (.int v1), .val (.int v2), .val (.int v3), .val (.int v4), .val (.int j7), .val (.int v9), .val (.int v10), .val (.int v11), .val (.int v12), .val (.long j15), .second, .val (.ref o26), .val (.ref o33), .val (.ref b38), .val (.int v44), .val (.ref b46), .val (.int (0 : Int32))]) rfl (XS.aload X52.here hx rfl (hb hby at_207) rfl rfl (XS.aload X52.here hx rfl (hb hby at_209) rfl rfl k)))) ?_
        show Comes p e below _ (T52.setTop (mkF m 211 #[.val (.int s1), .val (.int s2), .val (.long c1), .second, .val (.long c2), .second, .val (.int md), .val (.int v1), .val (.int v2), .val (.int v3), .val (.int v4), .val (.int j7), .val (.int v9), .val (.int v10), .val (.int v11), .val (.int v12), .val (.long j15), .second, .val (.ref o26), .val (.ref o33), .val (.ref b38), .val (.int v44), .val (.ref b46), .val (.int (0 : Int32))] [(.ref b46), (.ref b38)]))
        have F114 : Exa Z T50.heap b38 "com/example/soft_throttle/softthrottle/usage/RequestCount" := ((P42_0.ext E46).keep Kq50)
        have ne115 : b38 ≠ b46 := by omega
        have F116 : Fld Z T50.heap b38 "com/example/soft_throttle/softthrottle/usage/RequestCount" "request" "Ljava/lang/String;" (.ref o26) := ((P42_1.ext E46).keep Kq50 (ninS ne115 nin0))
        have F117 : Fld Z T50.heap b38 "com/example/soft_throttle/softthrottle/usage/RequestCount" "count" "J" (.long c1) := ((P42_2.ext E46).keep Kq50 (ninS ne115 nin0))
        have F118 : Exa Z T50.heap o26 "java/lang/String" := (((F41.keep Kq42).ext E46).keep Kq50)
        have ne119 : o26 ≠ b38 := by omega
        have ne120 : o26 ≠ b46 := by omega
        have F121 : Fld Z T50.heap o26 "java/lang/String" "value" "[B" (.ref o27) := (((((P25_1.keep Kq32 nin0).ext E38).keep Kq42 (ninS ne119 nin0)).ext E46).keep Kq50 (ninS ne120 nin0))
        have F122 : Fld Z T50.heap o26 "java/lang/String" "coder" "B" (.int (0 : Int32)) := (((((P25_2.keep Kq32 nin0).ext E38).keep Kq42 (ninS ne119 nin0)).ext E46).keep Kq50 (ninS ne120 nin0))
        have ne123 : o27 ≠ b38 := by omega
        have ne124 : o27 ≠ b46 := by omega
        have F125 : Arv Z T50.heap o27 r28 .byte v1 (own_bs v1 (nar .byte ((nar .char v2).toInt8.toInt32)) (nar .byte ((nar .char v3).toInt8.toInt32)) (nar .byte ((nar .char v4).toInt8.toInt32))) (.int (0 : Int32)) := (((((P25_3.keep Kq32 nin0).ext E38).keep Kq42 (ninS ne123 nin0)).ext E46).keep Kq50 (ninS ne124 nin0))
        have F126 : Exa Z T50.heap o33 "java/lang/String" := (F49.keep Kq50)
        have ne127 : o33 ≠ b38 := by omega
        have ne128 : o33 ≠ b46 := by omega
        have F129 : Fld Z T50.heap o33 "java/lang/String" "value" "[B" (.ref o34) := ((((P32_1.ext E38).keep Kq42 (ninS ne127 nin0)).ext E46).keep Kq50 (ninS ne128 nin0))
        have F130 : Fld Z T50.heap o33 "java/lang/String" "coder" "B" (.int (0 : Int32)) := ((((P32_2.ext E38).keep Kq42 (ninS ne127 nin0)).ext E46).keep Kq50 (ninS ne128 nin0))
        have ne131 : o34 ≠ b38 := by omega
        have ne132 : o34 ≠ b46 := by omega
        have F133 : Arv Z T50.heap o34 r35 .byte v9 (own_bs v9 (nar .byte ((nar .char v10).toInt8.toInt32)) (nar .byte ((nar .char v11).toInt8.toInt32)) (nar .byte ((nar .char v12).toInt8.toInt32))) (.int (0 : Int32)) := ((((P32_3.ext E38).keep Kq42 (ninS ne131 nin0)).ext E46).keep Kq50 (ninS ne132 nin0))
        have Od134 : Old Z n0 T50.heap := (((((Od31.keep Kq32 all0).ext E38).keep Kq42 (allS (by omega) all0)).ext E46).keep Kq50 (allS (by omega) all0))
        have ne135 : o26 ≠ o33 := by omega
        obtain ⟨cq136, kq136, q136a, q136b, q136c⟩ := isOf hZ hs52 F114
        obtain ⟨_, _, ⟨T136, L136, k136, n136⟩, -, X136, ⟨Lc136, hQ136, l136, y136, z136⟩, st136⟩ := X52.virtualBack hx (y := (⟨"com/example/soft_throttle/softthrottle/usage/RequestCount", "equals", "(Ljava/lang/Object;)Z"⟩ : MethodName)) (z := (⟨"com/example/soft_throttle/softthrottle/usage/RequestCount", "equals", "(Ljava/lang/Object;)Z"⟩ : MethodName)) hown (mvT hZ (hw _ (List.mem_of_getElem? (i := 57) rfl))) (mvT hZ (hw _ (List.mem_of_getElem? (i := 58) rfl))) (notFace_of_selects (args := #[]) (mvT hZ (hw _ (List.mem_of_getElem? (i := 60) rfl)))) (mvT hZ (hw _ (List.mem_of_getElem? (i := 60) rfl))) (mvT hZ (hw _ (List.mem_of_getElem? (i := 59) rfl))) (by decide) (backOf (W := 0) (reN l Z a0 hw [] b38 b46 o26 o33 c1 j15 o27 o34 r28 r35 v1 v9 ((nar .byte ((nar .char v2).toInt8.toInt32))) ((nar .byte ((nar .char v3).toInt8.toInt32))) ((nar .byte ((nar .char v4).toInt8.toInt32))) ((nar .byte ((nar .char v10).toInt8.toInt32))) ((nar .byte ((nar .char v11).toInt8.toInt32))) ((nar .byte ((nar .char v12).toInt8.toInt32))) cs T50.heap n0 (by omega)  F114 F116 F117 P50_0 P50_1 P50_2 F118 F121 F122 F125 (by first | assumption | omega) F126 F129 F130 F133 (by first | assumption | omega) G0 (by first | assumption | omega) Od134 ne135) hZ (hw _ (List.mem_of_getElem? (i := 61) rfl)) (hw _ (List.mem_of_getElem? (i := 39) rfl)) (by decide) (by decide)) q136a q136c (g := (mkF m 211 #[.val (.int s1), .val (.int s2), .val (.long c1), .second, .val (.long c2), .second, .val (.int md), .val (.int v1), .val (.int v2), .val (.int v3), .val (.int v4), .val (.int j7), .val (.int v9), .val (.int v10), .val (.int v11), .val (.int v12), .val (.long j15), .second, .val (.ref o26), .val (.ref o33), .val (.ref b38), .val (.int v44), .val (.ref b46), .val (.int (0 : Int32))] [(.ref b46), (.ref b38)])) rfl (by rw [hml]; rfl) (Steps.refl _) (argsL := [(.ref b46)]) (rest := []) (lenOf pd_7 rfl) rfl (by show 2 * 0 + _ ≤ _; exact Nat.le_of_eq rfl) (hb hby at_211) (fun _ _ => ⟨rfl, hs52, (by decide : 18 + 0 ≤ _), (by decide : 92 + 0 ≤ _)⟩)
        dsimp only [Pt.U, Pt.locs, Pt.cells, Pt.slots] at X136 l136 y136 z136 st136 hQ136
        subst l136 y136 z136
        obtain ⟨r137, rfl, Nq136, hs136, P136_0⟩ := hQ136
        have N136 := Fr.app N52 Nq136
        refine Comes.go st136 ?_
        show Comes p e below _ (T136.setTop (mkF m 214 #[.val (.int s1), .val (.int s2), .val (.long c1), .second, .val (.long c2), .second, .val (.int md), .val (.int v1), .val (.int v2), .val (.int v3), .val (.int v4), .val (.int j7), .val (.int v9), .val (.int v10), .val (.int v11), .val (.int v12), .val (.long j15), .second, .val (.ref o26), .val (.ref o33), .val (.ref b38), .val (.int v44), .val (.ref b46), .val (.int (0 : Int32))] [(.int r137)]))
        refine Comes.st (fun t k => XS.iload X136.here hx rfl (hb hby at_214) rfl k) ?_
        show Comes p e below _ (T136.setTop (mkF m 216 #[.val (.int s1), .val (.int s2), .val (.long c1), .second, .val (.long c2), .second, .val (.int md), .val (.int v1), .val (.int v2), .val (.int v3), .val (.int v4), .val (.int j7), .val (.int v9), .val (.int v10), .val (.int v11), .val (.int v12), .val (.long j15), .second, .val (.ref o26), .val (.ref o33), .val (.ref b38), .val (.int v44), .val (.ref b46), .val (.int (0 : Int32))] [(.int (0 : Int32)), (.int r137)]))
        have hc216_138 : r137 = (0 : Int32) := by first | exact (own_fin bd17 bd18 bd19 bd20 bd21 bd22 P136_0 P52_0).2.1 rfl | exact (own_fin bd17 bd18 bd19 bd20 bd21 bd22 P136_0 P52_0).2.2 (by assumption)
        refine Comes.st (fun t k => XS.icmpNo X136.here hx rfl (hb hby at_216) rfl (teq hc216_138).2 (XS.aload X136.here hx rfl (hb hby at_219) rfl rfl (XS.aload X136.here hx rfl (hb hby at_221) rfl rfl k))) ?_
        show Comes p e below _ (T136.setTop (mkF m 223 #[.val (.int s1), .val (.int s2), .val (.long c1), .second, .val (.long c2), .second, .val (.int md), .val (.int v1), .val (.int v2), .val (.int v3), .val (.int v4), .val (.int j7), .val (.int v9), .val (.int v10), .val (.int v11), .val (.int v12), .val (.long j15), .second, .val (.ref o26), .val (.ref o33), .val (.ref b38), .val (.int v44), .val (.ref b46), .val (.int (0 : Int32))] [(.ref b38), (.ref b46)]))
        obtain ⟨cq139, kq139, q139a, q139b, q139c⟩ := isOf hZ hs136 P50_0
        obtain ⟨_, _, ⟨T139, L139, k139, n139⟩, -, X139, ⟨Lc139, hQ139, l139, y139, z139⟩, st139⟩ := X136.virtualBack hx (y := (⟨"com/example/soft_throttle/softthrottle/usage/RequestCount", "equals", "(Ljava/lang/Object;)Z"⟩ : MethodName)) (z := (⟨"com/example/soft_throttle/softthrottle/usage/RequestCount", "equals", "(Ljava/lang/Object;)Z"⟩ : MethodName)) hown (mvT hZ (hw _ (List.mem_of_getElem? (i := 57) rfl))) (mvT hZ (hw _ (List.mem_of_getElem? (i := 58) rfl))) (notFace_of_selects (args := #[]) (mvT hZ (hw _ (List.mem_of_getElem? (i := 60) rfl)))) (mvT hZ (hw _ (List.mem_of_getElem? (i := 60) rfl))) (mvT hZ (hw _ (List.mem_of_getElem? (i := 59) rfl))) (by decide) (backOf (W := 0) (reN l Z a0 hw [] b46 b38 o33 o26 j15 c1 o34 o27 r35 r28 v9 v1 ((nar .byte ((nar .char v10).toInt8.toInt32))) ((nar .byte ((nar .char v11).toInt8.toInt32))) ((nar .byte ((nar .char v12).toInt8.toInt32))) ((nar .byte ((nar .char v2).toInt8.toInt32))) ((nar .byte ((nar .char v3).toInt8.toInt32))) ((nar .byte ((nar .char v4).toInt8.toInt32))) cs T50.heap n0 (by omega)  P50_0 P50_1 P50_2 F114 F116 F117 F126 F129 F130 F133 (by first | assumption | omega) F118 F121 F122 F125 (by first | assumption | omega) G0 (by first | assumption | omega) Od134 (Ne.symm ne135)) hZ (hw _ (List.mem_of_getElem? (i := 61) rfl)) (hw _ (List.mem_of_getElem? (i := 39) rfl)) (by decide) (by decide)) q139a q139c (g := (mkF m 223 #[.val (.int s1), .val (.int s2), .val (.long c1), .second, .val (.long c2), .second, .val (.int md), .val (.int v1), .val (.int v2), .val (.int v3), .val (.int v4), .val (.int j7), .val (.int v9), .val (.int v10), .val (.int v11), .val (.int v12), .val (.long j15), .second, .val (.ref o26), .val (.ref o33), .val (.ref b38), .val (.int v44), .val (.ref b46), .val (.int (0 : Int32))] [(.ref b38), (.ref b46)])) rfl (by rw [hml]; rfl) (Steps.refl _) (argsL := [(.ref b38)]) (rest := []) (lenOf pd_7 rfl) rfl (by show 2 * 0 + _ ≤ _; exact Nat.le_of_eq rfl) (hb hby at_223) (fun _ _ => ⟨rfl, hs136, (by decide : 18 + 0 ≤ _), (by decide : 92 + 0 ≤ _)⟩)
        dsimp only [Pt.U, Pt.locs, Pt.cells, Pt.slots] at X139 l139 y139 z139 st139 hQ139
        subst l139 y139 z139
        obtain ⟨r140, rfl, Nq139, hs139, P139_0⟩ := hQ139
        have N139 := Fr.app N136 Nq139
        refine Comes.go st139 ?_
        show Comes p e below _ (T139.setTop (mkF m 226 #[.val (.int s1), .val (.int s2), .val (.long c1), .second, .val (.long c2), .second, .val (.int md), .val (.int v1), .val (.int v2), .val (.int v3), .val (.int v4), .val (.int j7), .val (.int v9), .val (.int v10), .val (.int v11), .val (.int v12), .val (.long j15), .second, .val (.ref o26), .val (.ref o33), .val (.ref b38), .val (.int v44), .val (.ref b46), .val (.int (0 : Int32))] [(.int r140)]))
        refine Comes.st (fun t k => XS.iload X139.here hx rfl (hb hby at_226) rfl k) ?_
        show Comes p e below _ (T139.setTop (mkF m 228 #[.val (.int s1), .val (.int s2), .val (.long c1), .second, .val (.long c2), .second, .val (.int md), .val (.int v1), .val (.int v2), .val (.int v3), .val (.int v4), .val (.int j7), .val (.int v9), .val (.int v10), .val (.int v11), .val (.int v12), .val (.long j15), .second, .val (.ref o26), .val (.ref o33), .val (.ref b38), .val (.int v44), .val (.ref b46), .val (.int (0 : Int32))] [(.int (0 : Int32)), (.int r140)]))
        have hc228_141 : r140 = (0 : Int32) := by first | exact (own_fin bd17 bd18 bd19 bd20 bd21 bd22 (own_ans_symm P139_0) P52_0).2.1 rfl | exact (own_fin bd17 bd18 bd19 bd20 bd21 bd22 (own_ans_symm P139_0) P52_0).2.2 (by assumption)
        refine Comes.st (fun t k => XS.icmpNo X139.here hx rfl (hb hby at_228) rfl (teq hc228_141).2 (XS.iconst X139.here hx rfl (hb hby at_231) (XS.goto X139.here hx rfl (pc0 := 232) (pc' := 236) rfl (hb hby at_232) (by decide) (by decide) k))) ?_
        show Comes p e below _ (T139.setTop (mkF m 236 #[.val (.int s1), .val (.int s2), .val (.long c1), .second, .val (.long c2), .second, .val (.int md), .val (.int v1), .val (.int v2), .val (.int v3), .val (.int v4), .val (.int j7), .val (.int v9), .val (.int v10), .val (.int v11), .val (.int v12), .val (.long j15), .second, .val (.ref o26), .val (.ref o33), .val (.ref b38), .val (.int v44), .val (.ref b46), .val (.int (0 : Int32))] [(.int (1 : Int32))]))
        have hkf : T50.heap.size ≤ T50.heap.size := by omega
        exact Comes.wretN X139 hx (t := .boolean) Bd.returns (by simp) hlk (hb hby at_236) hS50 hkf hs139 ⟨rfl, N139⟩ (by decide) (by decide)
  · refine Comes.st (fun t k => XS.ifYes X42.here hx rfl (pc0 := 155) (pc' := 237) rfl (hb hby at_155) rfl ((if0 _ _).trans (feq hc155_45).2) (by decide) (by decide) (XS.iload X42.here hx rfl (hb hby at_237) rfl (XS.iconst X42.here hx rfl (hb hby at_239) k))) ?_
    show Comes p e below _ (T42.setTop (mkF m 240 #[.val (.int s1), .val (.int s2), .val (.long c1), .second, .val (.long c2), .second, .val (.int md), .val (.int v1), .val (.int v2), .val (.int v3), .val (.int v4), .val (.int j7), .val (.int v9), .val (.int v10), .val (.int v11), .val (.int v12), .val (.long j15), .second, .val (.ref o26), .val (.ref o33), .val (.ref b38), .val (.int v44), .unset, .unset] [(.int (1 : Int32)), (.int v44)]))
    by_cases hc240_142 : v44 = (1 : Int32)
    · refine Comes.st (fun t k => XS.icmpNo X42.here hx rfl (hb hby at_240) rfl (teq hc240_142).2 (XS.aload X42.here hx rfl (hb hby at_243) rfl rfl (XS.aconstNull X42.here hx rfl (hb hby at_245) k))) ?_
      show Comes p e below _ (T42.setTop (mkF m 246 #[.val (.int s1), .val (.int s2), .val (.long c1), .second, .val (.long c2), .second, .val (.int md), .val (.int v1), .val (.int v2), .val (.int v3), .val (.int v4), .val (.int j7), .val (.int v9), .val (.int v10), .val (.int v11), .val (.int v12), .val (.long j15), .second, .val (.ref o26), .val (.ref o33), .val (.ref b38), .val (.int v44), .unset, .unset] [.null, (.ref b38)]))
      obtain ⟨cq143, kq143, q143a, q143b, q143c⟩ := isOf hZ rfl P42_0
      obtain ⟨_, _, ⟨T143, L143, k143, n143⟩, -, X143, ⟨Lc143, hQ143, l143, y143, z143⟩, st143⟩ := X42.virtualBack hx (y := (⟨"com/example/soft_throttle/softthrottle/usage/RequestCount", "equals", "(Ljava/lang/Object;)Z"⟩ : MethodName)) (z := (⟨"com/example/soft_throttle/softthrottle/usage/RequestCount", "equals", "(Ljava/lang/Object;)Z"⟩ : MethodName)) hown (mvT hZ (hw _ (List.mem_of_getElem? (i := 57) rfl))) (mvT hZ (hw _ (List.mem_of_getElem? (i := 58) rfl))) (notFace_of_selects (args := #[]) (mvT hZ (hw _ (List.mem_of_getElem? (i := 60) rfl)))) (mvT hZ (hw _ (List.mem_of_getElem? (i := 60) rfl))) (mvT hZ (hw _ (List.mem_of_getElem? (i := 59) rfl))) (by decide) (backOf (W := 0) (reZ l Z a0 hw [] b38 T42.heap n0 (by omega)  P42_0) hZ (hw _ (List.mem_of_getElem? (i := 61) rfl)) (hw _ (List.mem_of_getElem? (i := 39) rfl)) (by decide) (by decide)) q143a q143c (g := (mkF m 246 #[.val (.int s1), .val (.int s2), .val (.long c1), .second, .val (.long c2), .second, .val (.int md), .val (.int v1), .val (.int v2), .val (.int v3), .val (.int v4), .val (.int j7), .val (.int v9), .val (.int v10), .val (.int v11), .val (.int v12), .val (.long j15), .second, .val (.ref o26), .val (.ref o33), .val (.ref b38), .val (.int v44), .unset, .unset] [.null, (.ref b38)])) rfl (by rw [hml]; rfl) (Steps.refl _) (argsL := [.null]) (rest := []) (lenOf pd_7 rfl) rfl (by show 2 * 0 + _ ≤ _; exact Nat.le_of_eq rfl) (hb hby at_246) (fun _ _ => ⟨rfl, rfl, (by decide : 15 + 0 ≤ _), (by decide : 58 + 0 ≤ _)⟩)
      dsimp only [Pt.U, Pt.locs, Pt.cells, Pt.slots] at X143 l143 y143 z143 st143 hQ143
      subst l143 y143 z143
      obtain ⟨rfl, Nq143, hs143⟩ := hQ143
      have N143 := Fr.app N42 Nq143
      refine Comes.go st143 ?_
      show Comes p e below _ (T143.setTop (mkF m 249 #[.val (.int s1), .val (.int s2), .val (.long c1), .second, .val (.long c2), .second, .val (.int md), .val (.int v1), .val (.int v2), .val (.int v3), .val (.int v4), .val (.int j7), .val (.int v9), .val (.int v10), .val (.int v11), .val (.int v12), .val (.long j15), .second, .val (.ref o26), .val (.ref o33), .val (.ref b38), .val (.int v44), .unset, .unset] [(.int (0 : Int32))]))
      have hc249_144 : (0 : Int32) = (0 : Int32) := by decide
      refine Comes.st (fun t k => XS.ifNo X143.here hx rfl (hb hby at_249) rfl ((if0 _ _).trans (teq hc249_144).2) (XS.iconst X143.here hx rfl (hb hby at_252) (XS.goto X143.here hx rfl (pc0 := 253) (pc' := 257) rfl (hb hby at_253) (by decide) (by decide) k))) ?_
      show Comes p e below _ (T143.setTop (mkF m 257 #[.val (.int s1), .val (.int s2), .val (.long c1), .second, .val (.long c2), .second, .val (.int md), .val (.int v1), .val (.int v2), .val (.int v3), .val (.int v4), .val (.int j7), .val (.int v9), .val (.int v10), .val (.int v11), .val (.int v12), .val (.long j15), .second, .val (.ref o26), .val (.ref o33), .val (.ref b38), .val (.int v44), .unset, .unset] [(.int (1 : Int32))]))
      have hkf : T42.heap.size ≤ T42.heap.size := by omega
      exact Comes.wretN X143 hx (t := .boolean) Bd.returns (by simp) hlk (hb hby at_257) hS42 hkf hs143 ⟨rfl, N143⟩ (by decide) (by decide)
    · refine Comes.st (fun t k => XS.icmpYes X42.here hx rfl (pc0 := 240) (pc' := 258) rfl (hb hby at_240) rfl (feq hc240_142).2 (by decide) (by decide) (XS.iload X42.here hx rfl (hb hby at_258) rfl (XS.iconst X42.here hx rfl (hb hby at_260) k))) ?_
      show Comes p e below _ (T42.setTop (mkF m 261 #[.val (.int s1), .val (.int s2), .val (.long c1), .second, .val (.long c2), .second, .val (.int md), .val (.int v1), .val (.int v2), .val (.int v3), .val (.int v4), .val (.int j7), .val (.int v9), .val (.int v10), .val (.int v11), .val (.int v12), .val (.long j15), .second, .val (.ref o26), .val (.ref o33), .val (.ref b38), .val (.int v44), .unset, .unset] [(.int (2 : Int32)), (.int v44)]))
      by_cases hc261_145 : v44 = (2 : Int32)
      · refine Comes.st (fun t k => XS.icmpNo X42.here hx rfl (hb hby at_261) rfl (teq hc261_145).2 (XS.aload X42.here hx rfl (hb hby at_264) rfl rfl (XS.aload X42.here hx rfl (hb hby at_266) rfl rfl k))) ?_
        show Comes p e below _ (T42.setTop (mkF m 268 #[.val (.int s1), .val (.int s2), .val (.long c1), .second, .val (.long c2), .second, .val (.int md), .val (.int v1), .val (.int v2), .val (.int v3), .val (.int v4), .val (.int j7), .val (.int v9), .val (.int v10), .val (.int v11), .val (.int v12), .val (.long j15), .second, .val (.ref o26), .val (.ref o33), .val (.ref b38), .val (.int v44), .unset, .unset] [(.ref o26), (.ref b38)]))
        have F146 : Exa Z T42.heap o26 "java/lang/String" := (F41.keep Kq42)
        obtain ⟨cq147, kq147, q147a, q147b, q147c⟩ := isOf hZ rfl P42_0
        obtain ⟨_, _, ⟨T147, L147, k147, n147⟩, -, X147, ⟨Lc147, hQ147, l147, y147, z147⟩, st147⟩ := X42.virtualBack hx (y := (⟨"com/example/soft_throttle/softthrottle/usage/RequestCount", "equals", "(Ljava/lang/Object;)Z"⟩ : MethodName)) (z := (⟨"com/example/soft_throttle/softthrottle/usage/RequestCount", "equals", "(Ljava/lang/Object;)Z"⟩ : MethodName)) hown (mvT hZ (hw _ (List.mem_of_getElem? (i := 57) rfl))) (mvT hZ (hw _ (List.mem_of_getElem? (i := 58) rfl))) (notFace_of_selects (args := #[]) (mvT hZ (hw _ (List.mem_of_getElem? (i := 60) rfl)))) (mvT hZ (hw _ (List.mem_of_getElem? (i := 60) rfl))) (mvT hZ (hw _ (List.mem_of_getElem? (i := 59) rfl))) (by decide) (backOf (W := 0) (reT l Z a0 hw [] b38 o26 T42.heap n0 (by omega)  P42_0 F146) hZ (hw _ (List.mem_of_getElem? (i := 61) rfl)) (hw _ (List.mem_of_getElem? (i := 39) rfl)) (by decide) (by decide)) q147a q147c (g := (mkF m 268 #[.val (.int s1), .val (.int s2), .val (.long c1), .second, .val (.long c2), .second, .val (.int md), .val (.int v1), .val (.int v2), .val (.int v3), .val (.int v4), .val (.int j7), .val (.int v9), .val (.int v10), .val (.int v11), .val (.int v12), .val (.long j15), .second, .val (.ref o26), .val (.ref o33), .val (.ref b38), .val (.int v44), .unset, .unset] [(.ref o26), (.ref b38)])) rfl (by rw [hml]; rfl) (Steps.refl _) (argsL := [(.ref o26)]) (rest := []) (lenOf pd_7 rfl) rfl (by show 2 * 0 + _ ≤ _; exact Nat.le_of_eq rfl) (hb hby at_268) (fun _ _ => ⟨rfl, rfl, (by decide : 15 + 0 ≤ _), (by decide : 58 + 0 ≤ _)⟩)
        dsimp only [Pt.U, Pt.locs, Pt.cells, Pt.slots] at X147 l147 y147 z147 st147 hQ147
        subst l147 y147 z147
        obtain ⟨rfl, Nq147, hs147⟩ := hQ147
        have N147 := Fr.app N42 Nq147
        refine Comes.go st147 ?_
        show Comes p e below _ (T147.setTop (mkF m 271 #[.val (.int s1), .val (.int s2), .val (.long c1), .second, .val (.long c2), .second, .val (.int md), .val (.int v1), .val (.int v2), .val (.int v3), .val (.int v4), .val (.int j7), .val (.int v9), .val (.int v10), .val (.int v11), .val (.int v12), .val (.long j15), .second, .val (.ref o26), .val (.ref o33), .val (.ref b38), .val (.int v44), .unset, .unset] [(.int (0 : Int32))]))
        have hc271_148 : (0 : Int32) = (0 : Int32) := by decide
        refine Comes.st (fun t k => XS.ifNo X147.here hx rfl (hb hby at_271) rfl ((if0 _ _).trans (teq hc271_148).2) (XS.iconst X147.here hx rfl (hb hby at_274) (XS.goto X147.here hx rfl (pc0 := 275) (pc' := 279) rfl (hb hby at_275) (by decide) (by decide) k))) ?_
        show Comes p e below _ (T147.setTop (mkF m 279 #[.val (.int s1), .val (.int s2), .val (.long c1), .second, .val (.long c2), .second, .val (.int md), .val (.int v1), .val (.int v2), .val (.int v3), .val (.int v4), .val (.int j7), .val (.int v9), .val (.int v10), .val (.int v11), .val (.int v12), .val (.long j15), .second, .val (.ref o26), .val (.ref o33), .val (.ref b38), .val (.int v44), .unset, .unset] [(.int (1 : Int32))]))
        have hkf : T42.heap.size ≤ T42.heap.size := by omega
        exact Comes.wretN X147 hx (t := .boolean) Bd.returns (by simp) hlk (hb hby at_279) hS42 hkf hs147 ⟨rfl, N147⟩ (by decide) (by decide)
      · refine Comes.st (fun t k => XS.icmpYes X42.here hx rfl (pc0 := 261) (pc' := 280) rfl (hb hby at_261) rfl (feq hc261_145).2 (by decide) (by decide) (XS.aload X42.here hx rfl (hb hby at_280) rfl rfl (XS.aload X42.here hx rfl (hb hby at_282) rfl rfl k))) ?_
        show Comes p e below _ (T42.setTop (mkF m 284 #[.val (.int s1), .val (.int s2), .val (.long c1), .second, .val (.long c2), .second, .val (.int md), .val (.int v1), .val (.int v2), .val (.int v3), .val (.int v4), .val (.int j7), .val (.int v9), .val (.int v10), .val (.int v11), .val (.int v12), .val (.long j15), .second, .val (.ref o26), .val (.ref o33), .val (.ref b38), .val (.int v44), .unset, .unset] [(.ref b38), (.ref b38)]))
        have F149 : Exa Z T42.heap o26 "java/lang/String" := (F41.keep Kq42)
        obtain ⟨cq150, kq150, q150a, q150b, q150c⟩ := isOf hZ rfl P42_0
        obtain ⟨_, _, ⟨T150, L150, k150, n150⟩, -, X150, ⟨Lc150, hQ150, l150, y150, z150⟩, st150⟩ := X42.virtualBack hx (y := (⟨"com/example/soft_throttle/softthrottle/usage/RequestCount", "equals", "(Ljava/lang/Object;)Z"⟩ : MethodName)) (z := (⟨"com/example/soft_throttle/softthrottle/usage/RequestCount", "equals", "(Ljava/lang/Object;)Z"⟩ : MethodName)) hown (mvT hZ (hw _ (List.mem_of_getElem? (i := 57) rfl))) (mvT hZ (hw _ (List.mem_of_getElem? (i := 58) rfl))) (notFace_of_selects (args := #[]) (mvT hZ (hw _ (List.mem_of_getElem? (i := 60) rfl)))) (mvT hZ (hw _ (List.mem_of_getElem? (i := 60) rfl))) (mvT hZ (hw _ (List.mem_of_getElem? (i := 59) rfl))) (by decide) (backOf (W := 0) (reS l Z a0 hw [] b38 o26 c1 T42.heap n0 (by omega)  P42_0 P42_1 P42_2 F149) hZ (hw _ (List.mem_of_getElem? (i := 61) rfl)) (hw _ (List.mem_of_getElem? (i := 39) rfl)) (by decide) (by decide)) q150a q150c (g := (mkF m 284 #[.val (.int s1), .val (.int s2), .val (.long c1), .second, .val (.long c2), .second, .val (.int md), .val (.int v1), .val (.int v2), .val (.int v3), .val (.int v4), .val (.int j7), .val (.int v9), .val (.int v10), .val (.int v11), .val (.int v12), .val (.long j15), .second, .val (.ref o26), .val (.ref o33), .val (.ref b38), .val (.int v44), .unset, .unset] [(.ref b38), (.ref b38)])) rfl (by rw [hml]; rfl) (Steps.refl _) (argsL := [(.ref b38)]) (rest := []) (lenOf pd_7 rfl) rfl (by show 2 * 0 + _ ≤ _; exact Nat.le_of_eq rfl) (hb hby at_284) (fun _ _ => ⟨rfl, rfl, (by decide : 15 + 0 ≤ _), (by decide : 58 + 0 ≤ _)⟩)
        dsimp only [Pt.U, Pt.locs, Pt.cells, Pt.slots] at X150 l150 y150 z150 st150 hQ150
        subst l150 y150 z150
        obtain ⟨rfl, Nq150, hs150⟩ := hQ150
        have N150 := Fr.app N42 Nq150
        refine Comes.go st150 ?_
        show Comes p e below _ (T150.setTop (mkF m 287 #[.val (.int s1), .val (.int s2), .val (.long c1), .second, .val (.long c2), .second, .val (.int md), .val (.int v1), .val (.int v2), .val (.int v3), .val (.int v4), .val (.int j7), .val (.int v9), .val (.int v10), .val (.int v11), .val (.int v12), .val (.long j15), .second, .val (.ref o26), .val (.ref o33), .val (.ref b38), .val (.int v44), .unset, .unset] [(.int (1 : Int32))]))
        have hkf : T42.heap.size ≤ T42.heap.size := by omega
        exact Comes.wretN X150 hx (t := .boolean) Bd.returns (by simp) hlk (hb hby at_287) hS42 hkf hs150 ⟨rfl, N150⟩ (by decide) (by decide)
theorem own_not0 {a0 : Array Value} {Z : State} {t : Term} {x : Int32} (h : t.eval a0 Z none [] Z = some (.int x)) (w : (Jvm.Cond.not (.eq t (.int 0))).before a0 Z = true) : ¬ (x = (0 : Int32)) := fun e => by
  subst e
  simp [Cond.before, Cond.holds, Cond.value, Term.eval, h] at w
set_option maxRecDepth 65536 in
set_option maxHeartbeats 40000000 in
theorem comes_1 {Post : Tables → Env → Array Value → State → Outcome → State → Prop} (hpost : ∀ tb e args s v u, (limb_1_1.after args s (.returned v) u = true ∧ limb_1_2.after args s (.returned v) u = true ∧ True) → ReturnedEndW s (.returned v) u (Jvm.fieldLocs frame_1_writes args s ++ Jvm.arrayLocs frame_1_arrays args s ++ Jvm.staticLocs frame_1_statics s) 32 2176 → Post tb e args s (.returned v) u) :
    ArmFor flags0 classFile x code maxLocals ret World_1 tables_1 room_1 Calls_1 rest_1 Pre_1 Post := by
  intro l hfl _ _ p e ha hc hk s m args below hf hA hF happ hP
  obtain ⟨hcalls, hrest, hpre⟩ := hP
  obtain ⟨-, -, -, hnamed, -, -, -, hat⟩ := (Spec.applies_iff hf).mp happ
  obtain ⟨hg, hn⟩ := and_e (Cond.before_iff.mp (show (Jvm.Cond.and given_1 narrow_1).before args s = true from hpre))
  obtain ⟨c0, d0⟩ := and_e hg
  obtain ⟨c1, d1⟩ := and_e d0
  obtain ⟨c2, d2⟩ := and_e d1
  obtain ⟨c3, d3⟩ := and_e d2
  obtain ⟨c4, d4⟩ := and_e d3
  obtain ⟨w0, w1, w2, w3, w4, rfl⟩ : ∃ w0 w1 w2 w3 w4 : Value, args = #[w0, w1, w2, w3, w4] := by
    have hs : args.size = 5 := by simpa [Cond.value, given_1] using c0
    obtain ⟨L⟩ := args
    match L, hs with
    | [w0, w1, w2, w3, w4], _ => exact ⟨w0, w1, w2, w3, w4, rfl⟩
  have hw := fun d (hd : d ∈ tables_1) => atoms_spec (ws := Jvm.Cond.code x code maxLocals ret :: tables_1) hat d (List.mem_cons_of_mem _ hd)
  have hfit : Fit s := fun {y c} hc i hi => by
    obtain ⟨ha, rfl⟩ := Array.getElem?_eq_some_iff.mp hc
    have q := List.all_eq_true.mp ((Array.all_eq_true_iff_forall_mem.mp hF) _ (Array.getElem_mem ha)) i (List.mem_range.mpr hi)
    simpa [Array.getElem?_eq_getElem hi] using q
  obtain ⟨i0, ei0⟩ := is_v c1
  obtain rfl : w0 = (.int i0) := Option.some.inj ei0
  obtain ⟨i1, ei1⟩ := is_v c2
  obtain rfl : w1 = (.int i1) := Option.some.inj ei1
  obtain ⟨i2, ei2⟩ := isL_v c3
  obtain rfl : w2 = (.long i2) := Option.some.inj ei2
  obtain ⟨i3, ei3⟩ := isL_v c4
  obtain rfl : w3 = (.long i3) := Option.some.inj ei3
  obtain ⟨i4, ei4⟩ := is_v d4
  obtain rfl : w4 = (.int i4) := Option.some.inj ei4
  obtain ⟨hsets, hown0⟩ := atoms_of _ (rest_1_c_eq ▸ (show rest_1_c.before _ s = true from hrest))
  obtain ⟨cs, ec⟩ := is_v (Cond.before_iff.mp (hsets _ (List.mem_of_getElem? (i := 1) rfl)))
  have hcs : ¬ (cs = (0 : Int32)) := own_not0 ec (hsets _ (List.mem_of_getElem? (i := 2) rfl))
  have hCH : CHv s consts_1 s.vm s.heap := CHv.start (own_EW hw) (fun p hp => hcalls.1 p hp) (show Jvm.Lit.compactW.before _ s = true from (hsets _ (List.mem_of_getElem? (i := 2) rfl))) (hw _ (List.mem_of_getElem? (i := 19) rfl)) (hw _ (List.mem_of_getElem? (i := 5) rfl))
  obtain ⟨n, o, h1, h2, h3, _, L, rfl, ⟨rfl, N⟩, hq⟩ := rm0 l s _ hw tables_1 i0 i1 i2 i3 i4 cs s.heap s.heap.size (Nat.le_refl _) (Sta.start ec (Or.inl (hsets _ (List.mem_of_getElem? (i := 0) rfl)))) hcs (Old.start s) p e ha hc hk s m _ below hf ((Spec.applies_iff_loose hf).mp happ).1 ⟨rfl, State.Warmed39.refl s, rfl, hCH⟩ trivial
  refine ⟨n, _, h1, h2, h3, hpost _ _ _ _ _ _ ⟨Cond.after_iff.mpr rfl, Cond.after_iff.mpr (eq_i res_at (Term.int_eval (1)) rfl), trivial⟩ ⟨hq.1, hq.2.1, hq.2.2.1, (hq.2.2.2.sift fun y hy => Or.inr (N y hy)).mono (by decide) (by decide)⟩⟩
theorem main_1_1 : Claimed_1_1 := comes_1 fun _ _ _ _ _ _ h hF => ⟨h.1, hF⟩
theorem main_1_2 : Claimed_1_2 := comes_1 fun _ _ _ _ _ _ h hF => ⟨h.2.1, hF⟩
end Jvm.Pilot.@@N@@
namespace Jvm.Pilot.@@N@@
open Jvm Jvm.ClassFile Sem Op Lib Jvm.Free Jvm.Stand Jvm.Pilot.@@N@@.Jvm.D
/-! MADE BY PROGRAM (witnessworld.py) out of the Statement's table words and the real class files: 21 classes; the members and pool entries that the words name. The judged class is class 1, her method 3. -/
namespace start1
open Jvm.ClassFile
def u (s : String) : CpInfo := .utf8 (stringToUtf16 s)
/-- a pool by its gaps: so many unusable entries, then the entry; so many at the end -/
def gap : Nat → List CpInfo → List CpInfo
  | 0, r => r
  | n + 1, r => .unusable :: gap n r
def poolList (es : List (Nat × CpInfo)) (last : Nat) : List CpInfo := es.foldr (fun e r => gap e.1 (e.2 :: r)) (gap last [])
def pool (es : List (Nat × CpInfo)) (last : Nat) : Array CpInfo := ⟨poolList es last⟩
def fileOf (pool : Array CpInfo) (this : Nat) (attrs : Array Attribute := #[]) (ms : Array MethodInfo := #[]) (fl : Nat := 33) (sup : Nat := 0) (ifs : Array Nat := #[]) (fds : Array FieldInfo := #[]) : ClassFile where
  minorVersion := 0
  majorVersion := 65
  constantPool := pool
  accessFlags := fl
  thisClass := this
  superClass := sup
  interfaces := ifs
  fields := fds
  methods := ms
  attributes := attrs
def plain (name : String) (sup : Option ClassId) : Class where
  name := name
  kind := .ordinary
  loader := none
  accessFlags := 33
  super := sup
  interfaces := #[]
  cf := none
  fields := #[]
  methods := #[]
  instanceTypes := #[]
  staticTypes := #[]
  resolved := #[]
  callSites := []
  init := .initialized
  statics := none
  mirror := none

def pool0 : Array CpInfo := pool [(5, u "<init>"), (0, u "()V"), (1, .class_ 10), (1, u "java/lang/Object")] 113

def k0c0 : Code := { maxStack := 0, maxLocals := 1, code := object_method_1_code, exceptionTable := #[], attributes := #[] }
def k0m0 : Method := { name := "<init>", desc := "()V", sig := { parameters := [], returnType := none }, accessFlags := 1, code := some k0c0 }
/-- java/lang/Object -/
def k0 : Class := { plain "java/lang/Object" none with
  accessFlags := 33
  interfaces := #[]
  cf := some (fileOf pool0 8 #[] #[{ accessFlags := 1, nameIndex := 5, descriptorIndex := 6, attributes := #[] }] 33 0 #[] #[])
  fields := #[]
  methods := #[k0m0]
  instanceTypes := #[]
  staticTypes := #[]
  resolved := Array.replicate 124 none
  statics := none }

def pool1 : Array CpInfo := pool [(2, .class_ 4), (1, u "java/lang/Object"), (0, u "<init>"), (0, u "()V"), (0, .class_ 8), (0, u "java/lang/String"), (0, .methodref 7 10), (0, .nameAndType 5 11), (0, u "([C)V"), (0, .methodref 13 14), (0, .class_ 15), (0, .nameAndType 16 17), (0, u "com/example/soft_throttle/softthrottle/usage/RequestCountEqualsPinLaw"), (0, u "mk"), (0, u "(ICCC)Ljava/lang/String;"), (0, .class_ 19), (0, u "com/example/soft_throttle/softthrottle/usage/RequestCount"), (0, .methodref 18 21), (0, .nameAndType 5 22), (0, u "(Ljava/lang/String;J)V"), (0, .methodref 13 24), (0, .nameAndType 25 26), (0, u "sameText"), (0, u "(ICCCICCC)Z"), (0, .methodref 18 28), (0, .nameAndType 29 30), (0, u "equals"), (0, u "(Ljava/lang/Object;)Z"), (3, u "law"), (0, u "(IIJJI)Z")] 2

def k1m0 : Method := { name := "<init>", desc := "()V", sig := { parameters := [], returnType := none }, accessFlags := 1, code := none }
def k1c1 : Code := { maxStack := 6, maxLocals := 4, code := method_2_code, exceptionTable := #[], attributes := #[] }
def k1m1 : Method := { name := "mk", desc := "(ICCC)Ljava/lang/String;", sig := { parameters := [.int, .char, .char, .char], returnType := some (.object "java/lang/String") }, accessFlags := 10, code := some k1c1 }
def k1c2 : Code := { maxStack := 2, maxLocals := 8, code := method_3_code, exceptionTable := #[], attributes := #[] }
def k1m2 : Method := { name := "sameText", desc := "(ICCCICCC)Z", sig := { parameters := [.int, .char, .char, .char, .int, .char, .char, .char], returnType := some .boolean }, accessFlags := 10, code := some k1c2 }
def k1c3 : Code := { maxStack := 8, maxLocals := 24, code := code, exceptionTable := #[], attributes := #[] }
def k1m3 : Method := { name := "law", desc := "(IIJJI)Z", sig := { parameters := [.int, .int, .long, .long, .int], returnType := some .boolean }, accessFlags := 9, code := some k1c3 }
/-- com/example/soft_throttle/softthrottle/usage/RequestCountEqualsPinLaw -/
def k1 : Class := { plain "com/example/soft_throttle/softthrottle/usage/RequestCountEqualsPinLaw" (some 0) with
  accessFlags := 49
  interfaces := #[]
  cf := some (fileOf pool1 13 #[] #[{ accessFlags := 1, nameIndex := 5, descriptorIndex := 6, attributes := #[] }, { accessFlags := 10, nameIndex := 16, descriptorIndex := 17, attributes := #[] }, { accessFlags := 10, nameIndex := 25, descriptorIndex := 26, attributes := #[] }, { accessFlags := 9, nameIndex := 34, descriptorIndex := 35, attributes := #[] }] 49 2 #[] #[])
  fields := #[]
  methods := #[k1m0, k1m1, k1m2, k1m3]
  instanceTypes := #[]
  staticTypes := #[]
  resolved := Array.replicate 38 none
  statics := none }

def pool2 : Array CpInfo := pool [(1, .class_ 2), (0, u "java/io/Serializable"), (0, .class_ 4), (0, u "java/lang/Object")] 2

/-- java/io/Serializable -/
def k2 : Class := { plain "java/io/Serializable" (some 0) with
  accessFlags := 1537
  interfaces := #[]
  cf := some (fileOf pool2 1 #[] #[] 1537 3 #[] #[])
  fields := #[]
  methods := #[]
  instanceTypes := #[]
  staticTypes := #[]
  resolved := Array.replicate 7 none
  statics := none }

def pool3 : Array CpInfo := pool [(1, .class_ 2), (0, u "java/lang/Comparable"), (0, .class_ 4), (0, u "java/lang/Object")] 7

/-- java/lang/Comparable -/
def k3 : Class := { plain "java/lang/Comparable" (some 0) with
  accessFlags := 1537
  interfaces := #[]
  cf := some (fileOf pool3 1 #[] #[] 1537 3 #[] #[])
  fields := #[]
  methods := #[]
  instanceTypes := #[]
  staticTypes := #[]
  resolved := Array.replicate 12 none
  statics := none }

def pool4 : Array CpInfo := pool [(2, .class_ 4), (1, u "java/lang/CharSequence"), (42, .class_ 48), (0, u "java/lang/CharSequence$1CodePointIterator"), (10, .class_ 60), (0, u "java/lang/CharSequence$1CharIterator"), (5, .class_ 67), (0, u "java/lang/Object")] 63

/-- java/lang/CharSequence -/
def k4 : Class := { plain "java/lang/CharSequence" (some 0) with
  accessFlags := 1537
  interfaces := #[]
  cf := some (fileOf pool4 2 #[.nestMembers #[47, 59]] #[] 1537 66 #[] #[])
  fields := #[]
  methods := #[]
  instanceTypes := #[]
  staticTypes := #[]
  resolved := Array.replicate 131 none
  statics := none }

def pool5 : Array CpInfo := pool [(1, .class_ 2), (0, u "java/lang/constant/Constable"), (0, .class_ 4), (0, u "java/lang/Object")] 6

/-- java/lang/constant/Constable -/
def k5 : Class := { plain "java/lang/constant/Constable" (some 0) with
  accessFlags := 1537
  interfaces := #[]
  cf := some (fileOf pool5 1 #[] #[] 1537 3 #[] #[])
  fields := #[]
  methods := #[]
  instanceTypes := #[]
  staticTypes := #[]
  resolved := Array.replicate 11 none
  statics := none }

def pool6 : Array CpInfo := pool [(1, .class_ 2), (0, u "java/lang/constant/ConstantDesc"), (0, .class_ 4), (0, u "java/lang/Object")] 32

/-- java/lang/constant/ConstantDesc -/
def k6 : Class := { plain "java/lang/constant/ConstantDesc" (some 0) with
  accessFlags := 1537
  interfaces := #[]
  cf := some (fileOf pool6 1 #[] #[] 1537 3 #[] #[])
  fields := #[]
  methods := #[]
  instanceTypes := #[]
  staticTypes := #[]
  resolved := Array.replicate 37 none
  statics := none }

def pool7 : Array CpInfo := pool [(1, .methodref 2 3), (0, .class_ 4), (0, .nameAndType 5 6), (0, u "java/lang/Object"), (0, u "<init>"), (0, u "()V"), (0, .string 8), (0, u ""), (0, .fieldref 10 11), (0, .class_ 12), (0, .nameAndType 13 14), (0, u "java/lang/String"), (0, u "value"), (0, u "[B"), (0, .fieldref 10 16), (0, .nameAndType 17 18), (0, u "coder"), (0, u "B"), (2, u "hash"), (0, u "I"), (2, u "hashIsZero"), (0, u "Z"), (0, .methodref 10 28), (0, .nameAndType 5 29), (0, u "([CIILjava/lang/Void;)V"), (8, .fieldref 10 39), (0, .nameAndType 40 26), (0, u "COMPACT_STRINGS"), (1, .class_ 44), (1, u "java/lang/StringUTF16"), (0, u "compress"), (1, .methodref 42 48), (0, .nameAndType 49 50), (0, u "coderFromArrayLen"), (0, u "([BI)B"), (56, .class_ 109), (1, u "java/lang/StringLatin1"), (67, .methodref 42 178), (0, .nameAndType 45 179), (0, u "([CII)[B"), (361, .methodref 107 542), (0, .nameAndType 543 544), (0, u "equals"), (0, u "([B[B)Z"), (28, u "(Ljava/lang/Object;)Z"), (1, .class_ 576), (0, u "java/lang/CharSequence"), (22, u "CASE_INSENSITIVE_ORDER"), (0, u "Ljava/util/Comparator;"), (409, u "([C)V"), (90, u "serialPersistentFields"), (0, u "[Ljava/io/ObjectStreamField;"), (0, .class_ 1104), (0, u "java/lang/String$CaseInsensitiveComparator"), (1, .class_ 1107), (0, u "java/io/Serializable"), (0, .class_ 1109), (0, u "java/lang/Comparable"), (0, .class_ 1111), (0, u "java/lang/constant/Constable"), (0, .class_ 1113), (0, u "java/lang/constant/ConstantDesc"), (2, u "serialVersionUID"), (0, u "J"), (3, u "REPL"), (0, u "C"), (2, u "LATIN1"), (1, u "UTF16")] 323

def k7m0 : Method := { name := "<init>", desc := "()V", sig := { parameters := [], returnType := none }, accessFlags := 1, code := none }
def k7c1 : Code := { maxStack := 5, maxLocals := 2, code := jdk_42_method_3_code, exceptionTable := #[], attributes := #[] }
def k7m1 : Method := { name := "<init>", desc := "([C)V", sig := { parameters := [(.array .char)], returnType := none }, accessFlags := 1, code := some k7c1 }
def k7c2 : Code := { maxStack := 2, maxLocals := 3, code := jdk_42_method_66_code, exceptionTable := #[], attributes := #[] }
def k7m2 : Method := { name := "equals", desc := "(Ljava/lang/Object;)Z", sig := { parameters := [(.object "java/lang/Object")], returnType := some .boolean }, accessFlags := 1, code := some k7c2 }
def k7c3 : Code := { maxStack := 4, maxLocals := 6, code := jdk_42_method_149_code, exceptionTable := #[], attributes := #[] }
def k7m3 : Method := { name := "<init>", desc := "([CIILjava/lang/Void;)V", sig := { parameters := [(.array .char), .int, .int, (.object "java/lang/Void")], returnType := none }, accessFlags := 2, code := some k7c3 }
/-- java/lang/String -/
def k7 : Class := { plain "java/lang/String" (some 0) with
  accessFlags := 49
  interfaces := #[2, 3, 4, 5, 6]
  cf := some (fileOf pool7 10 #[.nestMembers #[1103]] #[{ accessFlags := 1, nameIndex := 5, descriptorIndex := 6, attributes := #[] }, { accessFlags := 1, nameIndex := 5, descriptorIndex := 1010, attributes := #[] }, { accessFlags := 1, nameIndex := 543, descriptorIndex := 573, attributes := #[] }, { accessFlags := 2, nameIndex := 5, descriptorIndex := 29, attributes := #[] }] 49 2 #[1106, 1108, 575, 1110, 1112] #[{ accessFlags := 18, nameIndex := 13, descriptorIndex := 14, attributes := #[] }, { accessFlags := 18, nameIndex := 17, descriptorIndex := 18, attributes := #[] }, { accessFlags := 2, nameIndex := 21, descriptorIndex := 22, attributes := #[] }, { accessFlags := 2, nameIndex := 25, descriptorIndex := 26, attributes := #[] }, { accessFlags := 26, nameIndex := 1116, descriptorIndex := 1117, attributes := #[] }, { accessFlags := 24, nameIndex := 40, descriptorIndex := 26, attributes := #[] }, { accessFlags := 26, nameIndex := 1101, descriptorIndex := 1102, attributes := #[] }, { accessFlags := 26, nameIndex := 1121, descriptorIndex := 1122, attributes := #[] }, { accessFlags := 25, nameIndex := 599, descriptorIndex := 600, attributes := #[] }, { accessFlags := 24, nameIndex := 1125, descriptorIndex := 18, attributes := #[] }, { accessFlags := 24, nameIndex := 1127, descriptorIndex := 18, attributes := #[] }])
  fields := #[{ name := "value", type := (.array .byte), accessFlags := 18, slot := 0, constantValue := 0 }, { name := "coder", type := .byte, accessFlags := 18, slot := 1, constantValue := 0 }, { name := "hash", type := .int, accessFlags := 2, slot := 2, constantValue := 0 }, { name := "hashIsZero", type := .boolean, accessFlags := 2, slot := 3, constantValue := 0 }, { name := "serialVersionUID", type := .long, accessFlags := 26, slot := 0, constantValue := 0 }, { name := "COMPACT_STRINGS", type := .boolean, accessFlags := 24, slot := 1, constantValue := 0 }, { name := "serialPersistentFields", type := (.array (.object "java/io/ObjectStreamField")), accessFlags := 26, slot := 2, constantValue := 0 }, { name := "REPL", type := .char, accessFlags := 26, slot := 3, constantValue := 0 }, { name := "CASE_INSENSITIVE_ORDER", type := (.object "java/util/Comparator"), accessFlags := 25, slot := 4, constantValue := 0 }, { name := "LATIN1", type := .byte, accessFlags := 24, slot := 5, constantValue := 0 }, { name := "UTF16", type := .byte, accessFlags := 24, slot := 6, constantValue := 0 }]
  methods := #[k7m0, k7m1, k7m2, k7m3]
  instanceTypes := #[(.array .byte), .byte, .int, .boolean]
  staticTypes := #[.long, .boolean, (.array (.object "java/io/ObjectStreamField")), .char, (.object "java/util/Comparator"), .byte, .byte]
  resolved := Array.replicate 1451 none
  statics := some 0 }

def pool8 : Array CpInfo := pool [(6, .class_ 8), (1, u "java/lang/Object"), (0, u "<init>"), (0, u "()V"), (1, .class_ 14), (1, u "java/lang/StringUTF16"), (31, u "$assertionsDisabled"), (0, u "Z"), (13, u "HI_BYTE_SHIFT"), (0, u "I"), (2, u "LO_BYTE_SHIFT"), (49, .methodref 12 116), (0, .nameAndType 117 118), (0, u "compress"), (0, u "([CI[BII)I"), (3, u "([CII)[B"), (138, u "coderFromArrayLen"), (0, u "([BI)B"), (106, .class_ 371), (1, u "java/lang/StringUTF16$LinesSpliterator"), (58, u "MAX_LENGTH"), (196, .class_ 628), (0, u "java/lang/StringUTF16$CodePointsSpliterator"), (0, .class_ 630), (0, u "java/lang/StringUTF16$CharsSpliterator")] 4

def k8m0 : Method := { name := "<init>", desc := "()V", sig := { parameters := [], returnType := none }, accessFlags := 0, code := none }
def k8c1 : Code := { maxStack := 2, maxLocals := 2, code := jdk_52_method_15_code, exceptionTable := #[], attributes := #[] }
def k8m1 : Method := { name := "coderFromArrayLen", desc := "([BI)B", sig := { parameters := [(.array .byte), .int], returnType := some .byte }, accessFlags := 8, code := some k8c1 }
def k8c2 : Code := { maxStack := 5, maxLocals := 6, code := jdk_52_method_16_code, exceptionTable := #[], attributes := #[] }
def k8m2 : Method := { name := "compress", desc := "([CII)[B", sig := { parameters := [(.array .char), .int, .int], returnType := some (.array .byte) }, accessFlags := 9, code := some k8c2 }
def k8c3 : Code := { maxStack := 3, maxLocals := 7, code := jdk_52_method_21_code, exceptionTable := #[], attributes := #[] }
def k8m3 : Method := { name := "compress", desc := "([CI[BII)I", sig := { parameters := [(.array .char), .int, (.array .byte), .int, .int], returnType := some .int }, accessFlags := 9, code := some k8c3 }
/-- java/lang/StringUTF16 -/
def k8 : Class := { plain "java/lang/StringUTF16" (some 0) with
  accessFlags := 48
  interfaces := #[]
  cf := some (fileOf pool8 12 #[.nestMembers #[627, 629, 369]] #[{ accessFlags := 0, nameIndex := 9, descriptorIndex := 10, attributes := #[] }, { accessFlags := 8, nameIndex := 261, descriptorIndex := 262, attributes := #[] }, { accessFlags := 9, nameIndex := 117, descriptorIndex := 122, attributes := #[] }, { accessFlags := 9, nameIndex := 117, descriptorIndex := 118, attributes := #[] }] 48 6 #[] #[{ accessFlags := 26, nameIndex := 61, descriptorIndex := 62, attributes := #[] }, { accessFlags := 26, nameIndex := 65, descriptorIndex := 62, attributes := #[] }, { accessFlags := 24, nameIndex := 430, descriptorIndex := 62, attributes := #[] }, { accessFlags := 4120, nameIndex := 46, descriptorIndex := 47, attributes := #[] }])
  fields := #[{ name := "HI_BYTE_SHIFT", type := .int, accessFlags := 26, slot := 0, constantValue := 0 }, { name := "LO_BYTE_SHIFT", type := .int, accessFlags := 26, slot := 1, constantValue := 0 }, { name := "MAX_LENGTH", type := .int, accessFlags := 24, slot := 2, constantValue := 0 }, { name := "$assertionsDisabled", type := .boolean, accessFlags := 4120, slot := 3, constantValue := 0 }]
  methods := #[k8m0, k8m1, k8m2, k8m3]
  instanceTypes := #[]
  staticTypes := #[.int, .int, .int, .boolean]
  resolved := Array.replicate 635 none
  statics := none }

def pool9 : Array CpInfo := pool [(1, .methodref 2 3), (0, .class_ 4), (0, .nameAndType 5 6), (0, u "java/lang/Object"), (0, u "<init>"), (0, u "()V"), (0, .string 8), (0, u "request"), (0, .methodref 10 11), (0, .class_ 12), (0, .nameAndType 13 14), (0, u "java/util/Objects"), (0, u "requireNonNull"), (0, u "(Ljava/lang/Object;Ljava/lang/String;)Ljava/lang/Object;"), (0, .class_ 16), (0, u "java/lang/String"), (0, .fieldref 18 19), (0, .class_ 20), (0, .nameAndType 8 21), (0, u "com/example/soft_throttle/softthrottle/usage/RequestCount"), (0, u "Ljava/lang/String;"), (0, .fieldref 18 23), (0, .nameAndType 24 25), (0, u "count"), (0, u "J"), (0, .methodref 15 27), (0, .nameAndType 28 29), (0, u "equals"), (0, u "(Ljava/lang/Object;)Z"), (14, u "(Ljava/lang/String;J)V")] 25

def k9c0 : Code := { maxStack := 3, maxLocals := 4, code := prog_39_method_1_code, exceptionTable := #[], attributes := #[] }
def k9m0 : Method := { name := "<init>", desc := "(Ljava/lang/String;J)V", sig := { parameters := [(.object "java/lang/String"), .long], returnType := none }, accessFlags := 1, code := some k9c0 }
def k9c1 : Code := { maxStack := 4, maxLocals := 2, code := prog_39_method_4_code, exceptionTable := #[], attributes := #[] }
def k9m1 : Method := { name := "equals", desc := "(Ljava/lang/Object;)Z", sig := { parameters := [(.object "java/lang/Object")], returnType := some .boolean }, accessFlags := 1, code := some k9c1 }
/-- com/example/soft_throttle/softthrottle/usage/RequestCount -/
def k9 : Class := { plain "com/example/soft_throttle/softthrottle/usage/RequestCount" (some 0) with
  accessFlags := 49
  interfaces := #[]
  cf := some (fileOf pool9 18 #[] #[{ accessFlags := 1, nameIndex := 5, descriptorIndex := 44, attributes := #[] }, { accessFlags := 1, nameIndex := 28, descriptorIndex := 29, attributes := #[] }] 49 2 #[] #[{ accessFlags := 18, nameIndex := 8, descriptorIndex := 21, attributes := #[] }, { accessFlags := 18, nameIndex := 24, descriptorIndex := 25, attributes := #[] }])
  fields := #[{ name := "request", type := (.object "java/lang/String"), accessFlags := 18, slot := 0, constantValue := 0 }, { name := "count", type := .long, accessFlags := 18, slot := 1, constantValue := 0 }]
  methods := #[k9m0, k9m1]
  instanceTypes := #[(.object "java/lang/String"), .long]
  staticTypes := #[]
  resolved := Array.replicate 70 none
  statics := none }

def pool10 : Array CpInfo := pool [(2, .class_ 4), (1, u "java/lang/Object"), (0, u "<init>"), (0, u "()V"), (35, .class_ 44), (1, u "java/util/Objects"), (0, u "requireNonNull"), (48, u "(Ljava/lang/Object;Ljava/lang/String;)Ljava/lang/Object;")] 89

def k10m0 : Method := { name := "<init>", desc := "()V", sig := { parameters := [], returnType := none }, accessFlags := 2, code := none }
def k10c1 : Code := { maxStack := 3, maxLocals := 2, code := jdk_31_method_11_code, exceptionTable := #[], attributes := #[] }
def k10m1 : Method := { name := "requireNonNull", desc := "(Ljava/lang/Object;Ljava/lang/String;)Ljava/lang/Object;", sig := { parameters := [(.object "java/lang/Object"), (.object "java/lang/String")], returnType := some (.object "java/lang/Object") }, accessFlags := 9, code := some k10c1 }
/-- java/util/Objects -/
def k10 : Class := { plain "java/util/Objects" (some 0) with
  accessFlags := 49
  interfaces := #[]
  cf := some (fileOf pool10 42 #[] #[{ accessFlags := 2, nameIndex := 5, descriptorIndex := 6, attributes := #[] }, { accessFlags := 9, nameIndex := 45, descriptorIndex := 94, attributes := #[] }] 49 2 #[] #[])
  fields := #[]
  methods := #[k10m0, k10m1]
  instanceTypes := #[]
  staticTypes := #[]
  resolved := Array.replicate 184 none
  statics := none }

def pool11 : Array CpInfo := pool [(4, .class_ 6), (1, u "java/lang/Object"), (0, u "<init>"), (0, u "()V"), (5, .class_ 16), (1, u "java/lang/StringLatin1"), (104, u "$assertionsDisabled"), (0, u "Z"), (98, .class_ 223), (1, u "java/lang/StringLatin1$LinesSpliterator"), (57, u "equals"), (0, u "([B[B)Z"), (107, .class_ 391), (0, u "java/lang/StringLatin1$CharsSpliterator")] 3

def k11m0 : Method := { name := "<init>", desc := "()V", sig := { parameters := [], returnType := none }, accessFlags := 0, code := none }
def k11c1 : Code := { maxStack := 3, maxLocals := 3, code := jdk_43_method_13_code, exceptionTable := #[], attributes := #[] }
def k11m1 : Method := { name := "equals", desc := "([B[B)Z", sig := { parameters := [(.array .byte), (.array .byte)], returnType := some .boolean }, accessFlags := 9, code := some k11c1 }
/-- java/lang/StringLatin1 -/
def k11 : Class := { plain "java/lang/StringLatin1" (some 0) with
  accessFlags := 48
  interfaces := #[]
  cf := some (fileOf pool11 14 #[.nestMembers #[390, 221]] #[{ accessFlags := 0, nameIndex := 7, descriptorIndex := 8, attributes := #[] }, { accessFlags := 9, nameIndex := 281, descriptorIndex := 282, attributes := #[] }] 48 4 #[] #[{ accessFlags := 4120, nameIndex := 121, descriptorIndex := 122, attributes := #[] }])
  fields := #[{ name := "$assertionsDisabled", type := .boolean, accessFlags := 4120, slot := 0, constantValue := 0 }]
  methods := #[k11m0, k11m1]
  instanceTypes := #[]
  staticTypes := #[.boolean]
  resolved := Array.replicate 395 none
  statics := none }

def pool12 : Array CpInfo := pool [(2, .class_ 4), (1, u "java/lang/Object"), (0, u "<init>"), (0, u "()V"), (17, .class_ 26), (1, u "jdk/internal/util/Preconditions"), (28, .class_ 56), (0, u "jdk/internal/util/Preconditions$4"), (57, .class_ 115), (0, u "jdk/internal/util/Preconditions$1"), (7, u "SIOOBE_FORMATTER"), (0, u "Ljava/util/function/BiFunction;"), (0, .class_ 126), (0, u "jdk/internal/util/Preconditions$2"), (3, u "AIOOBE_FORMATTER"), (0, .class_ 132), (0, u "jdk/internal/util/Preconditions$3"), (3, u "IOOBE_FORMATTER")] 57

def k12m0 : Method := { name := "<init>", desc := "()V", sig := { parameters := [], returnType := none }, accessFlags := 1, code := none }
/-- jdk/internal/util/Preconditions -/
def k12 : Class := { plain "jdk/internal/util/Preconditions" (some 0) with
  accessFlags := 33
  interfaces := #[]
  cf := some (fileOf pool12 24 #[.nestMembers #[55, 131, 125, 114]] #[{ accessFlags := 1, nameIndex := 5, descriptorIndex := 6, attributes := #[] }] 33 2 #[] #[{ accessFlags := 25, nameIndex := 123, descriptorIndex := 124, attributes := #[] }, { accessFlags := 25, nameIndex := 130, descriptorIndex := 124, attributes := #[] }, { accessFlags := 25, nameIndex := 136, descriptorIndex := 124, attributes := #[] }])
  fields := #[{ name := "SIOOBE_FORMATTER", type := (.object "java/util/function/BiFunction"), accessFlags := 25, slot := 0, constantValue := 0 }, { name := "AIOOBE_FORMATTER", type := (.object "java/util/function/BiFunction"), accessFlags := 25, slot := 1, constantValue := 0 }, { name := "IOOBE_FORMATTER", type := (.object "java/util/function/BiFunction"), accessFlags := 25, slot := 2, constantValue := 0 }]
  methods := #[k12m0]
  instanceTypes := #[]
  staticTypes := #[(.object "java/util/function/BiFunction"), (.object "java/util/function/BiFunction"), (.object "java/util/function/BiFunction")]
  resolved := Array.replicate 194 none
  statics := some 1 }

def pool13 : Array CpInfo := pool [(9, u "<init>"), (6, .class_ 18), (1, u "java/lang/Object"), (0, u "()V"), (1, .class_ 23), (1, u "jdk/internal/util/ArraysSupport"), (0, u "LOG2_ARRAY_LONG_INDEX_SCALE"), (0, u "I"), (2, u "U"), (0, u "Ljdk/internal/misc/Unsafe;"), (8, u "BIG_ENDIAN"), (0, u "Z"), (8, u "LOG2_BYTE_BIT_SIZE"), (4, u "LOG2_ARRAY_INT_INDEX_SCALE"), (54, u "JLA"), (0, u "Ljdk/internal/access/JavaLangAccess;"), (11, u "LOG2_ARRAY_BOOLEAN_INDEX_SCALE"), (9, u "LOG2_ARRAY_BYTE_INDEX_SCALE"), (5, u "LOG2_ARRAY_CHAR_INDEX_SCALE"), (5, u "LOG2_ARRAY_SHORT_INDEX_SCALE"), (18, u "LOG2_ARRAY_FLOAT_INDEX_SCALE"), (24, u "LOG2_ARRAY_DOUBLE_INDEX_SCALE"), (89, u "T_BOOLEAN"), (2, u "T_CHAR"), (1, u "T_FLOAT"), (1, u "T_DOUBLE"), (1, u "T_BYTE"), (1, u "T_SHORT"), (1, u "T_INT"), (1, u "T_LONG"), (1, u "SOFT_MAX_ARRAY_LENGTH")] 83

def k13m0 : Method := { name := "<init>", desc := "()V", sig := { parameters := [], returnType := none }, accessFlags := 2, code := none }
/-- jdk/internal/util/ArraysSupport -/
def k13 : Class := { plain "jdk/internal/util/ArraysSupport" (some 0) with
  accessFlags := 33
  interfaces := #[]
  cf := some (fileOf pool13 21 #[] #[{ accessFlags := 2, nameIndex := 9, descriptorIndex := 19, attributes := #[] }] 33 16 #[] #[{ accessFlags := 24, nameIndex := 28, descriptorIndex := 29, attributes := #[] }, { accessFlags := 26, nameIndex := 38, descriptorIndex := 39, attributes := #[] }, { accessFlags := 25, nameIndex := 121, descriptorIndex := 25, attributes := #[] }, { accessFlags := 25, nameIndex := 131, descriptorIndex := 25, attributes := #[] }, { accessFlags := 25, nameIndex := 137, descriptorIndex := 25, attributes := #[] }, { accessFlags := 25, nameIndex := 143, descriptorIndex := 25, attributes := #[] }, { accessFlags := 25, nameIndex := 53, descriptorIndex := 25, attributes := #[] }, { accessFlags := 25, nameIndex := 24, descriptorIndex := 25, attributes := #[] }, { accessFlags := 25, nameIndex := 162, descriptorIndex := 25, attributes := #[] }, { accessFlags := 25, nameIndex := 187, descriptorIndex := 25, attributes := #[] }, { accessFlags := 26, nameIndex := 48, descriptorIndex := 25, attributes := #[] }, { accessFlags := 25, nameIndex := 277, descriptorIndex := 25, attributes := #[] }, { accessFlags := 25, nameIndex := 280, descriptorIndex := 25, attributes := #[] }, { accessFlags := 25, nameIndex := 282, descriptorIndex := 25, attributes := #[] }, { accessFlags := 25, nameIndex := 284, descriptorIndex := 25, attributes := #[] }, { accessFlags := 25, nameIndex := 286, descriptorIndex := 25, attributes := #[] }, { accessFlags := 25, nameIndex := 288, descriptorIndex := 25, attributes := #[] }, { accessFlags := 25, nameIndex := 290, descriptorIndex := 25, attributes := #[] }, { accessFlags := 25, nameIndex := 292, descriptorIndex := 25, attributes := #[] }, { accessFlags := 26, nameIndex := 108, descriptorIndex := 109, attributes := #[] }, { accessFlags := 25, nameIndex := 294, descriptorIndex := 25, attributes := #[] }])
  fields := #[{ name := "U", type := (.object "jdk/internal/misc/Unsafe"), accessFlags := 24, slot := 0, constantValue := 0 }, { name := "BIG_ENDIAN", type := .boolean, accessFlags := 26, slot := 1, constantValue := 0 }, { name := "LOG2_ARRAY_BOOLEAN_INDEX_SCALE", type := .int, accessFlags := 25, slot := 2, constantValue := 0 }, { name := "LOG2_ARRAY_BYTE_INDEX_SCALE", type := .int, accessFlags := 25, slot := 3, constantValue := 0 }, { name := "LOG2_ARRAY_CHAR_INDEX_SCALE", type := .int, accessFlags := 25, slot := 4, constantValue := 0 }, { name := "LOG2_ARRAY_SHORT_INDEX_SCALE", type := .int, accessFlags := 25, slot := 5, constantValue := 0 }, { name := "LOG2_ARRAY_INT_INDEX_SCALE", type := .int, accessFlags := 25, slot := 6, constantValue := 0 }, { name := "LOG2_ARRAY_LONG_INDEX_SCALE", type := .int, accessFlags := 25, slot := 7, constantValue := 0 }, { name := "LOG2_ARRAY_FLOAT_INDEX_SCALE", type := .int, accessFlags := 25, slot := 8, constantValue := 0 }, { name := "LOG2_ARRAY_DOUBLE_INDEX_SCALE", type := .int, accessFlags := 25, slot := 9, constantValue := 0 }, { name := "LOG2_BYTE_BIT_SIZE", type := .int, accessFlags := 26, slot := 10, constantValue := 0 }, { name := "T_BOOLEAN", type := .int, accessFlags := 25, slot := 11, constantValue := 0 }, { name := "T_CHAR", type := .int, accessFlags := 25, slot := 12, constantValue := 0 }, { name := "T_FLOAT", type := .int, accessFlags := 25, slot := 13, constantValue := 0 }, { name := "T_DOUBLE", type := .int, accessFlags := 25, slot := 14, constantValue := 0 }, { name := "T_BYTE", type := .int, accessFlags := 25, slot := 15, constantValue := 0 }, { name := "T_SHORT", type := .int, accessFlags := 25, slot := 16, constantValue := 0 }, { name := "T_INT", type := .int, accessFlags := 25, slot := 17, constantValue := 0 }, { name := "T_LONG", type := .int, accessFlags := 25, slot := 18, constantValue := 0 }, { name := "JLA", type := (.object "jdk/internal/access/JavaLangAccess"), accessFlags := 26, slot := 19, constantValue := 0 }, { name := "SOFT_MAX_ARRAY_LENGTH", type := .int, accessFlags := 25, slot := 20, constantValue := 0 }]
  methods := #[k13m0]
  instanceTypes := #[]
  staticTypes := #[(.object "jdk/internal/misc/Unsafe"), .boolean, .int, .int, .int, .int, .int, .int, .int, .int, .int, .int, .int, .int, .int, .int, .int, .int, .int, (.object "jdk/internal/access/JavaLangAccess"), .int]
  resolved := Array.replicate 378 none
  statics := none }

def pool14 : Array CpInfo := pool [(1, u "java/lang/Cloneable"), (0, .class_ 1), (0, u "java/lang/Object"), (0, .class_ 3)] 3

/-- java/lang/Cloneable -/
def k14 : Class := { plain "java/lang/Cloneable" (some 0) with
  accessFlags := 1537
  interfaces := #[]
  cf := some (fileOf pool14 2 #[] #[] 1537 4 #[] #[])
  fields := #[]
  methods := #[]
  instanceTypes := #[]
  staticTypes := #[]
  resolved := Array.replicate 8 none
  statics := none }

/-- the primitive byte -/
def k15 : Class := { plain "byte" none with kind := .primitive 'B', accessFlags := 0x411 }
/-- [B -/
def k16 : Class := { plain "[B" (some 0) with kind := .array 15 .byte, interfaces := #[14, 2], accessFlags := 1041 }

/-- the primitive char -/
def k17 : Class := { plain "char" none with kind := .primitive 'C', accessFlags := 0x411 }
/-- [C -/
def k18 : Class := { plain "[C" (some 0) with kind := .array 17 .char, interfaces := #[14, 2], accessFlags := 1041 }

/-- the primitive int -/
def k19 : Class := { plain "int" none with kind := .primitive 'I', accessFlags := 0x411 }
/-- [I -/
def k20 : Class := { plain "[I" (some 0) with kind := .array 19 .int, interfaces := #[14, 2], accessFlags := 1041 }

def heap : Heap := #[{ cls := 7, slots := #[.long 0, .int 1, .null, .int 0, .null, .int 0, .int 0], vm := .statics 7 },
  { cls := 12, slots := #[.null, .null, .null], vm := .statics 12 }]
def classes : Array Class := #[k0, k1, k2, k3, k4, k5, k6, k7, k8, k9, k10, k11, k12, k13, k14, k15, k16, k17, k18, k19, k20]
def interned : List (Array UInt16 × Addr) := []
def slotsUsed : Nat := 10
def theMethod : MethodId := ⟨1, 3⟩
def args0 : Array Value := #[.int 5, .int 7, .long 5, .long 6, .int 0]
def aboutOver (below : List Frame) : State where
  vm := { classes := classes, interned := interned.toArray }
  heap := heap
  slotsUsed := slotsUsed
  threads := #[{ frames := .invoking theMethod args0 :: below }]
def below0 : List Frame := [.native { method := ⟨0, 0⟩, args := #[] }]
def about1 : State := aboutOver below0
def p0 : Program := .bare "" "" ""
def e0 : Env := launch0.env 0 0 0
theorem w_frames : about1.frames = Frame.invoking theMethod args0 :: below0 := rfl
set_option maxRecDepth 65536 in
theorem w_args : argsFit about1.vm theMethod args0 = true := by decide +kernel
set_option maxRecDepth 65536 in
theorem w_heap : heapFits about1 = true := by decide +kernel
set_option maxRecDepth 65536 in
theorem w_runnable : about1.curStatus? = some .runnable := by decide +kernel
set_option maxRecDepth 65536 in
theorem w_alone : about1.alone = true := by decide +kernel
set_option maxRecDepth 65536 in
theorem w_named : about1.methodNamed? x = some theMethod := by decide +kernel
set_option maxRecDepth 65536 in
theorem w_hears : about1.hears theMethod below0 = true := by decide +kernel
set_option maxRecDepth 65536 in
theorem w_ripe : about1.ripe theMethod args0 below0 = true := by decide +kernel
theorem w_running : about1.status = .running := rfl
set_option maxRecDepth 65536 in
theorem w_room : about1.hasRoom e0.platform room_1 = true :=
  launch0.hasRoom_least _ room_1 (by decide +kernel) (by decide +kernel) (by decide +kernel) (by decide +kernel) (by decide +kernel) (by decide +kernel)
theorem allAtoms_all (ts : List Jvm.Cond) (a : Array Jvm.Value) (st : Jvm.State) : (allAtoms ts).before a st = ts.all (fun c => c.before a st) := by
  induction ts with
  | nil => rfl
  | cons c t ih =>
    show (Jvm.Cond.and c (allAtoms t)).before a st = _
    rw [Jvm.Cond.before_and, ih, List.all_cons]
def words1 : List Jvm.Cond := Jvm.Cond.code x code maxLocals ret :: tables_1
/-- a 'code' word, met by the world's own term for the bytes: nothing is compared byte by byte -/
theorem code_word {y : MethodName} {bytes : ByteArray} {mx : Nat} {rt : Option FieldType} {a : Array Value} {s : State} {m : MethodId} {meth : Method} {c : Code} (h1 : s.methodNamed? y = some m) (h2 : s.vm.method? m = some meth) (h3 : meth.code = some c) (h4 : c.code = bytes)
    (h5 : (c.maxLocals == mx && c.exceptionTable.isEmpty && decide (c.maxStack ≤ mostOperands) && decide (meth.sig.returnType = rt) && !meth.locks && decide (parseMethodDescriptor y.desc = some meth.sig)) = true) : (Jvm.Cond.code y bytes mx rt).before a s = true := by
  simp only [Bool.and_eq_true, beq_iff_eq, Bool.not_eq_true', decide_eq_true_eq] at h5
  obtain ⟨⟨⟨⟨⟨g1, g2⟩, g3⟩, g4⟩, g5⟩, g6⟩ := h5
  simp [Cond.before, Cond.holds, Cond.value, h1, h2, h3, h4, g1, g2, g3, g4, g5, g6]
def isCode : Jvm.Cond → Bool
  | .code _ _ _ _ => true
  | _ => false
theorem all_split {L : List Jvm.Cond} {P : Jvm.Cond → Bool} (h1 : L.all (fun c => isCode c || P c) = true) (h2 : ∀ c ∈ L.filter isCode, P c = true) : L.all P = true := by
  refine List.all_eq_true.mpr fun c hc => ?_
  have h := List.all_eq_true.mp h1 c hc
  rcases Bool.eq_false_or_eq_true (isCode c) with hi | hi
  · exact h2 c (List.mem_filter.mpr ⟨hc, hi⟩)
  · simpa [hi] using h
set_option maxRecDepth 65536 in
theorem w_c0 : (Jvm.Cond.code x code maxLocals ret).before args0 about1 = true := code_word (m := ⟨1, 3⟩) (meth := k1m3) (c := k1c3) (by decide +kernel) rfl rfl rfl (by decide +kernel)
set_option maxRecDepth 65536 in
theorem w_c1 : (Jvm.Cond.code ({ cls := "com/example/soft_throttle/softthrottle/usage/RequestCountEqualsPinLaw", name := "mk", desc := "(ICCC)Ljava/lang/String;" } : Jvm.MethodName) method_2_code (4 : Nat) (Option.some (Jvm.ClassFile.FieldType.object "java/lang/String"))).before args0 about1 = true := code_word (m := ⟨1, 1⟩) (meth := k1m1) (c := k1c1) (by decide +kernel) rfl rfl rfl (by decide +kernel)
set_option maxRecDepth 65536 in
theorem w_c2 : (Jvm.Cond.code ({ cls := "java/lang/String", name := "<init>", desc := "([C)V" } : Jvm.MethodName) jdk_42_method_3_code (2 : Nat) (Option.none : Option Jvm.ClassFile.FieldType)).before args0 about1 = true := code_word (m := ⟨7, 1⟩) (meth := k7m1) (c := k7c1) (by decide +kernel) rfl rfl rfl (by decide +kernel)
set_option maxRecDepth 65536 in
theorem w_c3 : (Jvm.Cond.code ({ cls := "java/lang/String", name := "<init>", desc := "([CIILjava/lang/Void;)V" } : Jvm.MethodName) jdk_42_method_149_code (6 : Nat) (Option.none : Option Jvm.ClassFile.FieldType)).before args0 about1 = true := code_word (m := ⟨7, 3⟩) (meth := k7m3) (c := k7c3) (by decide +kernel) rfl rfl rfl (by decide +kernel)
set_option maxRecDepth 65536 in
theorem w_c4 : (Jvm.Cond.code ({ cls := "java/lang/Object", name := "<init>", desc := "()V" } : Jvm.MethodName) object_method_1_code (1 : Nat) (Option.none : Option Jvm.ClassFile.FieldType)).before args0 about1 = true := code_word (m := ⟨0, 0⟩) (meth := k0m0) (c := k0c0) (by decide +kernel) rfl rfl rfl (by decide +kernel)
set_option maxRecDepth 65536 in
theorem w_c5 : (Jvm.Cond.code ({ cls := "java/lang/StringUTF16", name := "compress", desc := "([CII)[B" } : Jvm.MethodName) jdk_52_method_16_code (6 : Nat) (Option.some (Jvm.ClassFile.FieldType.array Jvm.ClassFile.FieldType.byte))).before args0 about1 = true := code_word (m := ⟨8, 2⟩) (meth := k8m2) (c := k8c2) (by decide +kernel) rfl rfl rfl (by decide +kernel)
set_option maxRecDepth 65536 in
theorem w_c6 : (Jvm.Cond.code ({ cls := "java/lang/StringUTF16", name := "compress", desc := "([CI[BII)I" } : Jvm.MethodName) jdk_52_method_21_code (7 : Nat) (Option.some Jvm.ClassFile.FieldType.int)).before args0 about1 = true := code_word (m := ⟨8, 3⟩) (meth := k8m3) (c := k8c3) (by decide +kernel) rfl rfl rfl (by decide +kernel)
set_option maxRecDepth 65536 in
theorem w_c7 : (Jvm.Cond.code ({ cls := "java/lang/StringUTF16", name := "coderFromArrayLen", desc := "([BI)B" } : Jvm.MethodName) jdk_52_method_15_code (2 : Nat) (Option.some Jvm.ClassFile.FieldType.byte)).before args0 about1 = true := code_word (m := ⟨8, 1⟩) (meth := k8m1) (c := k8c1) (by decide +kernel) rfl rfl rfl (by decide +kernel)
set_option maxRecDepth 65536 in
theorem w_c8 : (Jvm.Cond.code ({ cls := "com/example/soft_throttle/softthrottle/usage/RequestCount", name := "<init>", desc := "(Ljava/lang/String;J)V" } : Jvm.MethodName) prog_39_method_1_code (4 : Nat) (Option.none : Option Jvm.ClassFile.FieldType)).before args0 about1 = true := code_word (m := ⟨9, 0⟩) (meth := k9m0) (c := k9c0) (by decide +kernel) rfl rfl rfl (by decide +kernel)
set_option maxRecDepth 65536 in
theorem w_c9 : (Jvm.Cond.code ({ cls := "java/util/Objects", name := "requireNonNull", desc := "(Ljava/lang/Object;Ljava/lang/String;)Ljava/lang/Object;" } : Jvm.MethodName) jdk_31_method_11_code (2 : Nat) (Option.some (Jvm.ClassFile.FieldType.object "java/lang/Object"))).before args0 about1 = true := code_word (m := ⟨10, 1⟩) (meth := k10m1) (c := k10c1) (by decide +kernel) rfl rfl rfl (by decide +kernel)
set_option maxRecDepth 65536 in
theorem w_c10 : (Jvm.Cond.code ({ cls := "com/example/soft_throttle/softthrottle/usage/RequestCountEqualsPinLaw", name := "sameText", desc := "(ICCCICCC)Z" } : Jvm.MethodName) method_3_code (8 : Nat) (Option.some Jvm.ClassFile.FieldType.boolean)).before args0 about1 = true := code_word (m := ⟨1, 2⟩) (meth := k1m2) (c := k1c2) (by decide +kernel) rfl rfl rfl (by decide +kernel)
set_option maxRecDepth 65536 in
theorem w_c11 : (Jvm.Cond.code ({ cls := "com/example/soft_throttle/softthrottle/usage/RequestCount", name := "equals", desc := "(Ljava/lang/Object;)Z" } : Jvm.MethodName) prog_39_method_4_code (2 : Nat) (Option.some Jvm.ClassFile.FieldType.boolean)).before args0 about1 = true := code_word (m := ⟨9, 1⟩) (meth := k9m1) (c := k9c1) (by decide +kernel) rfl rfl rfl (by decide +kernel)
set_option maxRecDepth 65536 in
theorem w_c12 : (Jvm.Cond.code ({ cls := "java/lang/String", name := "equals", desc := "(Ljava/lang/Object;)Z" } : Jvm.MethodName) jdk_42_method_66_code (3 : Nat) (Option.some Jvm.ClassFile.FieldType.boolean)).before args0 about1 = true := code_word (m := ⟨7, 2⟩) (meth := k7m2) (c := k7c2) (by decide +kernel) rfl rfl rfl (by decide +kernel)
set_option maxRecDepth 65536 in
theorem w_c13 : (Jvm.Cond.code ({ cls := "java/lang/StringLatin1", name := "equals", desc := "([B[B)Z" } : Jvm.MethodName) jdk_43_method_13_code (3 : Nat) (Option.some Jvm.ClassFile.FieldType.boolean)).before args0 about1 = true := code_word (m := ⟨11, 1⟩) (meth := k11m1) (c := k11c1) (by decide +kernel) rfl rfl rfl (by decide +kernel)
def codes1 : List Jvm.Cond := [Jvm.Cond.code x code maxLocals ret, Jvm.Cond.code ({ cls := "com/example/soft_throttle/softthrottle/usage/RequestCountEqualsPinLaw", name := "mk", desc := "(ICCC)Ljava/lang/String;" } : Jvm.MethodName) method_2_code (4 : Nat) (Option.some (Jvm.ClassFile.FieldType.object "java/lang/String")), Jvm.Cond.code ({ cls := "java/lang/String", name := "<init>", desc := "([C)V" } : Jvm.MethodName) jdk_42_method_3_code (2 : Nat) (Option.none : Option Jvm.ClassFile.FieldType), Jvm.Cond.code ({ cls := "java/lang/String", name := "<init>", desc := "([CIILjava/lang/Void;)V" } : Jvm.MethodName) jdk_42_method_149_code (6 : Nat) (Option.none : Option Jvm.ClassFile.FieldType), Jvm.Cond.code ({ cls := "java/lang/Object", name := "<init>", desc := "()V" } : Jvm.MethodName) object_method_1_code (1 : Nat) (Option.none : Option Jvm.ClassFile.FieldType), Jvm.Cond.code ({ cls := "java/lang/StringUTF16", name := "compress", desc := "([CII)[B" } : Jvm.MethodName) jdk_52_method_16_code (6 : Nat) (Option.some (Jvm.ClassFile.FieldType.array Jvm.ClassFile.FieldType.byte)), Jvm.Cond.code ({ cls := "java/lang/StringUTF16", name := "compress", desc := "([CI[BII)I" } : Jvm.MethodName) jdk_52_method_21_code (7 : Nat) (Option.some Jvm.ClassFile.FieldType.int), Jvm.Cond.code ({ cls := "java/lang/StringUTF16", name := "coderFromArrayLen", desc := "([BI)B" } : Jvm.MethodName) jdk_52_method_15_code (2 : Nat) (Option.some Jvm.ClassFile.FieldType.byte), Jvm.Cond.code ({ cls := "com/example/soft_throttle/softthrottle/usage/RequestCount", name := "<init>", desc := "(Ljava/lang/String;J)V" } : Jvm.MethodName) prog_39_method_1_code (4 : Nat) (Option.none : Option Jvm.ClassFile.FieldType), Jvm.Cond.code ({ cls := "java/util/Objects", name := "requireNonNull", desc := "(Ljava/lang/Object;Ljava/lang/String;)Ljava/lang/Object;" } : Jvm.MethodName) jdk_31_method_11_code (2 : Nat) (Option.some (Jvm.ClassFile.FieldType.object "java/lang/Object")), Jvm.Cond.code ({ cls := "com/example/soft_throttle/softthrottle/usage/RequestCountEqualsPinLaw", name := "sameText", desc := "(ICCCICCC)Z" } : Jvm.MethodName) method_3_code (8 : Nat) (Option.some Jvm.ClassFile.FieldType.boolean), Jvm.Cond.code ({ cls := "com/example/soft_throttle/softthrottle/usage/RequestCount", name := "equals", desc := "(Ljava/lang/Object;)Z" } : Jvm.MethodName) prog_39_method_4_code (2 : Nat) (Option.some Jvm.ClassFile.FieldType.boolean), Jvm.Cond.code ({ cls := "java/lang/String", name := "equals", desc := "(Ljava/lang/Object;)Z" } : Jvm.MethodName) jdk_42_method_66_code (3 : Nat) (Option.some Jvm.ClassFile.FieldType.boolean), Jvm.Cond.code ({ cls := "java/lang/StringLatin1", name := "equals", desc := "([B[B)Z" } : Jvm.MethodName) jdk_43_method_13_code (3 : Nat) (Option.some Jvm.ClassFile.FieldType.boolean)]
set_option maxRecDepth 65536 in
theorem codes_eq : words1.filter isCode = codes1 := rfl
theorem w_codes : ∀ c ∈ words1.filter isCode, c.before args0 about1 = true := by
  rw [codes_eq]
  intro c hc
  simp only [codes1, List.mem_cons, List.not_mem_nil, or_false] at hc
  rcases hc with rfl | rfl | rfl | rfl | rfl | rfl | rfl | rfl | rfl | rfl | rfl | rfl | rfl | rfl
  · exact w_c0
  · exact w_c1
  · exact w_c2
  · exact w_c3
  · exact w_c4
  · exact w_c5
  · exact w_c6
  · exact w_c7
  · exact w_c8
  · exact w_c9
  · exact w_c10
  · exact w_c11
  · exact w_c12
  · exact w_c13
set_option maxRecDepth 65536 in
theorem w_t1 : (words1.take 24).all (fun c => isCode c || c.before args0 about1) = true := by decide +kernel
set_option maxRecDepth 65536 in
theorem w_t2 : ((words1.drop 24).take 24).all (fun c => isCode c || c.before args0 about1) = true := by decide +kernel
set_option maxRecDepth 65536 in
theorem w_t3 : (((words1.drop 24).drop 24).take 24).all (fun c => isCode c || c.before args0 about1) = true := by decide +kernel
set_option maxRecDepth 65536 in
theorem w_t4 : (((words1.drop 24).drop 24).drop 24).all (fun c => isCode c || c.before args0 about1) = true := by decide +kernel
theorem w_tables : (allAtoms (Jvm.Cond.code x code maxLocals ret :: tables_1)).before args0 about1 = true := by
  rw [allAtoms_all]
  show words1.all (fun c => c.before args0 about1) = true
  refine all_split ?_ w_codes
  rw [← List.take_append_drop 24 words1, List.all_append, w_t1, ← List.take_append_drop 24 (words1.drop 24), List.all_append, w_t2, ← List.take_append_drop 24 ((words1.drop 24).drop 24), List.all_append, w_t3, w_t4]
  rfl
set_option maxRecDepth 65536 in
theorem w_rest : rest_1_c.before args0 about1 = true := by decide +kernel
set_option maxRecDepth 65536 in
theorem w_case : (Jvm.Cond.and given_1 narrow_1).before args0 about1 = true := by decide +kernel
set_option maxRecDepth 65536 in
theorem w_consts : constsHeld consts_1 about1 := Jvm.Lit.constsHeldB_iff.mp (by decide +kernel)
theorem w_applies : (headSpec (Jvm.Cond.code x code maxLocals ret :: tables_1) room_1).applies x e0.platform about1 = true :=
  (Spec.applies_iff w_frames).mpr ⟨w_running, w_runnable, w_alone, w_named, w_hears, w_ripe, w_room, w_tables⟩
theorem atStart : AtStart classFile x code maxLocals ret World_1 tables_1 room_1 Calls_1 rest_1 Pre_1 launch0 p0 e0 about1 theMethod args0 below0 :=
  ⟨lists_1, trivial, launch0.admits_env _ _ _, launch0.least_env, fairChoices_fair.cas, fairChoices_fair.clock, w_frames, w_args, w_heap, w_applies, ⟨w_consts, trivial⟩, w_rest, w_case⟩
end start1
theorem witness_1 : WitnessClaimed_1 := ⟨start1.p0, start1.e0, start1.about1, start1.theMethod, start1.args0, start1.below0, start1.atStart⟩
end Jvm.Pilot.@@N@@
