import JvmDerived
import JvmDerived.Pilot.@@N@@Statement
import JvmDerived.Pilot.@@N@@Code
set_option linter.unusedVariables false
set_option linter.unusedSimpArgs false
namespace Jvm.Pilot.@@N@@
open Jvm Jvm.ClassFile Sem Op Lib Jvm.Free Jvm.Stand Jvm.LawKit Jvm.RoadKit Bundle Jvm.Pilot.@@N@@.Jvm.D
/-- from S the run comes to a state that P allows -/
def Comes (p : Program) (e : Env) (below : List Frame) (P : State → Prop) (S : State) : Prop := ∃ S', Steps p.tables e below S S' ∧ P S'
/-- how a body ends that Q allows -/
def EndsAt (below : List Frame) (s : State) (Q : Option Value → Heap → List Loc → Prop) (kc ks : Nat) (s₂ : State) : Prop := ∃ o, s₂.status = .running ∧ Ended s₂ below o ∧ ∃ v L, o = .returned v ∧ Q v s₂.heap L ∧ FrameEnd s o s₂ L kc ks
/-- an array of ints, its content a function -/
def Ari (Z : State) (h : Heap) (a : Nat) (n : Nat) (f : Nat → Int32) : Prop := ∃ c : Cell, Arr Z h a c .int ∧ c.slots.size = n ∧ ∀ i, i < n → c.slots[i]? = some (.int (f i))
section OwnAri
variable {Z : State} {h h' : Heap} {a b n sl : Nat} {f : Nat → Int32} {v : Value} {ws : List Addr}
theorem Ari.lt (F : Ari Z h a n f) : a < h.size := by obtain ⟨c, A, -⟩ := F; exact A.lt
theorem Ari.ext (F : Ari Z h a n f) (E : Ext h h') : Ari Z h' a n f := by obtain ⟨c, A, r⟩ := F; exact ⟨c, A.ext E, r⟩
theorem Ari.other (F : Ari Z h b n f) (W : Wr h h' a sl v) (q : b ≠ a) : Ari Z h' b n f := by obtain ⟨c, A, r⟩ := F; exact ⟨c, A.other W q, r⟩
theorem Ari.keep (F : Ari Z h a n f) (K : Keep h h' ws) (q : a ∉ ws) : Ari Z h' a n f := by obtain ⟨c, A, r⟩ := F; exact ⟨c, ⟨K.2.1 a c A.1 q, A.2⟩, r⟩
theorem Ari.new {k : ClassId} {z : Int32} (A : Arr Z h a (newA k .int z) .int) (q : z.toNatClampNeg = n) : Ari Z h a n (fun _ => 0) := by
  refine ⟨_, A, by rw [sz_new, q], fun i hi => ?_⟩
  simp [newA, q, hi, defaultValue]
theorem Ari.set {c : Cell} (A : Arr Z h a c .int) (S : c.slots.size = n) (H : ∀ i, i < n → c.slots[i]? = some (.int (f i))) {j x : Int32} {k : Nat} (W : Wr h h' a j.toNatClampNeg (.int x)) (hk : j.toNatClampNeg = k) : Ari Z h' a n (fun i => if i = k then x else f i) := by
  subst hk
  refine ⟨_, A.same W, by rw [sz_set]; exact S, fun i hi => ?_⟩
  by_cases q : i = j.toNatClampNeg
  · subst q; simp [Cell.setSlot, S, hi]
  · show _ = some (Value.int (if i = j.toNatClampNeg then x else f i))
    rw [if_neg q, ← H i hi]; exact Array.getElem?_setIfInBounds_ne (fun z => q z.symm)
end OwnAri
section Own
variable {p : Program} {l : Launch} {e : Env} {R : Room} {s : State} {m : MethodId} {args : Array Value} {below : List Frame} {meth : Method} {c : Code} {T : State} {locs : List Loc} {cells slots : Nat} {Q : Option Value → Heap → List Loc → Prop} {kc ks : Nat} {P : State → Prop} {S S' : State} {h : Heap}
theorem Comes.here (q : P S) : Comes p e below P S := ⟨S, Steps.refl _, q⟩
theorem Comes.st (f : ∀ t, Steps p.tables e below S' t → Steps p.tables e below S t) (g : Comes p e below P S') : Comes p e below P S := by
  obtain ⟨s₂, h1, r⟩ := g; exact ⟨s₂, f _ h1, r⟩
theorem Comes.go (f : Steps p.tables e below S S') (g : Comes p e below P S') : Comes p e below P S := by
  obtain ⟨s₂, h1, r⟩ := g; exact ⟨s₂, f.trans h1, r⟩
theorem Comes.cast {g g' : JFrame} (q : g = g') (k : Comes p e below P (T.setTop g')) : Comes p e below P (T.setTop g) := q ▸ k
theorem Comes.out (h : Comes p e below (EndsAt below s Q kc ks) S) : ∃ s₂ o, Steps p.tables e below S s₂ ∧ s₂.status = .running ∧ Ended s₂ below o ∧ ∃ v L, o = .returned v ∧ Q v s₂.heap L ∧ FrameEnd s o s₂ L kc ks := by
  obtain ⟨s₂, h1, o, r⟩ := h; exact ⟨s₂, o, h1, r⟩
theorem Comes.fin (X : Stand p l e R s m args below meth c T locs cells slots) {v : Option Value} (hv : meth.sig.returnType = none → v = none) (hlk : meth.locks = false)
    (hs : ∀ fs, (∀ (f : JFrame) (acts : List Action), f.method = m → f.locked = none → f.entered = [] → (doReturn e (T.setTop f) acts v).1 = T.setFrames fs) → Steps p.tables e below S (T.setFrames fs))
    (eT : T.heap = h) (hq : Q v h locs) (hc : cells ≤ kc) (hl : slots ≤ ks) : Comes p e below (EndsAt below s Q kc ks) S := by
  obtain ⟨fs, hr, hrun, hended, hW, hsame⟩ := X.leave (v := v) hv hlk
  exact ⟨_, hs fs hr, _, hrun, hended, _, _, rfl, (show Q v T.heap locs from by rw [eT]; exact hq), ⟨_, rfl⟩, hW, hsame.mono hc hl⟩
theorem Comes.ret0 (X : Stand p l e R s m args below meth c T locs cells slots) (hx : p.tables.exec = Jvm.exec) {pc : Nat} {Ls : Array Slot} (hret : meth.sig.returnType = none) (hlk : meth.locks = false) (hd : decode c.code pc = .ok (.return_, 1))
    (eT : T.heap = h) (hq : Q none h locs) (hc : cells ≤ kc) (hl : slots ≤ ks) : Comes p e below (EndsAt below s Q kc ks) (T.setTop (mkF m pc Ls [])) :=
  Comes.fin X (fun _ => rfl) hlk (fun _ hr => X.returnOut hx hret hd hr) eT hq hc hl
theorem Comes.retN (X : Stand p l e R s m args below meth c T locs cells slots) (hx : p.tables.exec = Jvm.exec) {pc : Nat} {Ls : Array Slot} {z : Int32} {t : FieldType} {rest : List Value} (hret : meth.sig.returnType = some t) (ht : t = .boolean ∨ t = .byte ∨ t = .char ∨ t = .short) (hlk : meth.locks = false) (hd : decode c.code pc = .ok (.ireturn, 1))
    (eT : T.heap = h) (hq : Q (some (.int (nar t z))) h locs) (hc : cells ≤ kc) (hl : slots ≤ ks) : Comes p e below (EndsAt below s Q kc ks) (T.setTop (mkF m pc Ls (.int z :: rest))) :=
  Comes.fin X (fun q => by rw [hret] at q; cases q) hlk (fun _ hr => Jvm.RoadKit.retN X hx hret ht hd hr) eT hq hc hl
theorem Comes.retV (X : Stand p l e R s m args below meth c T locs cells slots) (hx : p.tables.exec = Jvm.exec) {pc : Nat} {Ls : Array Slot} {w : Value} {t : FieldType} {i : Instr} {rest : List Value} (hret : meth.sig.returnType = some t) (hn : narrow t w = w)
    (hi : (i = .ireturn ∧ (t = .int ∨ t = .boolean ∨ t = .byte ∨ t = .char ∨ t = .short) ∧ ∃ z, w = .int z) ∨ (i = .lreturn ∧ t = .long ∧ ∃ z, w = .long z) ∨ (i = .dreturn ∧ t = .double ∧ ∃ z, w = .double z) ∨ (i = .freturn ∧ t = .float ∧ ∃ z, w = .float z) ∨ (i = .areturn ∧ t.isReference = true ∧ w.isRef = true))
    (hlk : meth.locks = false) (hd : decode c.code pc = .ok (i, 1))
    (eT : T.heap = h) (hq : Q (some w) h locs) (hc : cells ≤ kc) (hl : slots ≤ ks) : Comes p e below (EndsAt below s Q kc ks) (T.setTop (mkF m pc Ls (w :: rest))) :=
  Comes.fin X (fun q => by rw [hret] at q; cases q) hlk (fun _ hr => retOut X hx hret hn hi hd hr) eT hq hc hl
/-- the same where the frame is the wide one -/
def EndsAtW (below : List Frame) (s : State) (Q : Option Value → Heap → List Loc → Prop) (kc ks : Nat) (s₂ : State) : Prop := ∃ o, s₂.status = .running ∧ Ended s₂ below o ∧ ∃ v L, o = .returned v ∧ Q v s₂.heap L ∧ ReturnedEndW s o s₂ L kc ks
theorem Comes.outW (h : Comes p e below (EndsAtW below s Q kc ks) S) : ∃ s₂ o, Steps p.tables e below S s₂ ∧ s₂.status = .running ∧ Ended s₂ below o ∧ ∃ v L, o = .returned v ∧ Q v s₂.heap L ∧ ReturnedEndW s o s₂ L kc ks := by
  obtain ⟨s₂, h1, o, r⟩ := h; exact ⟨s₂, o, h1, r⟩
theorem Comes.wretN {vm₁ : Vm} {n : Nat} (X : Stand p l e R (s.setVm vm₁) m args below meth c T locs cells slots) (hx : p.tables.exec = Jvm.exec) {pc : Nat} {Ls : Array Slot} {z : Int32} {t : FieldType} {rest : List Value} (hret : meth.sig.returnType = some t) (ht : t = .boolean ∨ t = .byte ∨ t = .char ∨ t = .short) (hlk : meth.locks = false) (hd : decode c.code pc = .ok (.ireturn, 1))
    (hS : s.Since vm₁ n) (hn : n ≤ h.size) (eT : T.heap = h) (hq : Q (some (.int (nar t z))) h locs) (hc : cells ≤ kc) (hl : slots ≤ ks) : Comes p e below (EndsAtW below s Q kc ks) (T.setTop (mkF m pc Ls (.int z :: rest))) := by
  obtain ⟨fs, hr, hrun, hended, h1, h2, h3, h4⟩ := X.leaveW hS (by rw [eT]; exact hn) (v := some (.int (nar t z))) (fun q => by rw [hret] at q; cases q) hlk
  exact ⟨_, Jvm.RoadKit.retN X hx hret ht hd hr, _, hrun, hended, _, _, rfl, (show Q _ T.heap locs from by rw [eT]; exact hq), h1, h2, h3, h4.mono hc hl⟩
theorem narrow_ref {t : FieldType} {w : Value} (h : w.isRef = true) : narrow t w = w := by rcases ref_cases h with rfl | ⟨y, rfl⟩ <;> cases t <;> rfl
theorem lremM {g : JFrame} {target : State} (X : Stand p l e R s m args below meth c T locs cells slots) (hx : p.tables.exec = Jvm.exec) (hg : g.method = m) {x y : Int64} {rest : List Value} (hd : decode c.code g.pc = .ok (.lrem, 1)) (hs : g.stack = .long y :: .long x :: rest) (hy : ¬ y = 0)
    (hr : Steps p.tables e below (T.setTop { g with pc := g.pc + 1, stack := .long (x % y) :: rest }) target) : Steps p.tables e below (T.setTop g) target := by
  have q : x - x / y * y = x % y := lrem_mod x y
  exact XT.lrem X.here hx hg hd hs hy (by rw [q]; exact hr)
theorem own_dup2 {g : JFrame} {target : State} (X : Stand p l e R s m args below meth c T locs cells slots) (hx : p.tables.exec = Jvm.exec) (hg : g.method = m) {x y : Value} {rest : List Value} (hd : decode c.code g.pc = .ok (.dup2, 1)) (hs : g.stack = x :: y :: rest) (hcx : x.category = 1) (hcy : y.category = 1)
    (hr : Steps p.tables e below (T.setTop { g with pc := g.pc + 1, stack := x :: y :: x :: y :: rest }) target) : Steps p.tables e below (T.setTop g) target := by
  subst hg
  jvm_step X.here [X.here.top, hx, hd, hs, hcx, hcy]
  exact hr
theorem own_inb {j : Int32} {n : Nat} (h : 0 ≤ j.toInt ∧ j.toInt < (n : Int)) : ¬ (j < 0 ∨ n ≤ j.toNatClampNeg) := by
  rw [Int32.lt_iff_toInt_lt]; simp only [Int32.toNatClampNeg, Int32.reduceToInt]; omega
theorem own_lrem (x y : Int64) (d : Int) (hy : y.toInt = d) : (0 ≤ x.toInt → (x % y).toInt = x.toInt % d) ∧ (x.toInt < 0 → (x % y).toInt = -((-x.toInt) % d)) := by rw [Int64.toInt_mod, hy]; exact tr _ _
theorem own_lremV (x y : Int64) : 0 ≤ x.toInt → 0 < y.toInt → 0 ≤ (x % y).toInt ∧ (x % y).toInt < y.toInt := by
  intro h1 h2
  rw [Int64.toInt_mod, Int.tmod_eq_emod_of_nonneg h1]
  exact ⟨Int.emod_nonneg _ (by omega), Int.emod_lt_of_pos _ h2⟩
theorem own_eqi {a0 : Array Value} {Z : State} {t : Term} {k : Int32} {idx : List Nat} (h : (Jvm.Cond.eq t (Term.int k)).value a0 Z none Z idx = some true) : t.eval a0 Z none idx Z = some (.int k) := by
  obtain ⟨x, y, e1, e2, k1, k2⟩ := cmp_v (Or.inl h)
  simp only [Term.eval, Option.some.injEq] at e2
  subst e2
  obtain ⟨z, rfl⟩ := k2
  simp [Cond.value, e1, Term.eval] at h
  rw [e1, h]
theorem own_selp {a0 : Array Value} {Z : State} {y : MethodName} {n : Nat} (wi : (Jvm.Cond.instantiable y.cls n).before a0 Z = true) (wp : (Jvm.Cond.privateMethod y).before a0 Z = true) (wm : (Jvm.Cond.instanceMethod y).before a0 Z = true) (hy : y.cls ≠ "java/lang/invoke/MethodHandle" ∧ y.cls ≠ "java/lang/invoke/VarHandle") : (Jvm.Cond.selects y.cls y y).before a0 Z = true := by
  obtain ⟨c, k, h1, h2, h3, h4, -⟩ := Cond.instantiable_spec wi
  exact Jvm.Stand.selects_self_of_private h1 h2 (by simp only [Bool.or_eq_false_iff] at h4; exact h4.1) (Cond.privateMethod_at wp) wm hy
theorem own_eqr {a0 : Array Value} {Z : State} {t u : Term} {y : Value} {idx : List Nat} (h : (Jvm.Cond.eq t u).value a0 Z none Z idx = some true) (hu : u.eval a0 Z none idx Z = some y) (hy : y.isRef = true) : t.eval a0 Z none idx Z = some y := by
  obtain ⟨x, y', e1, e2, k1, k2⟩ := cmp_v (Or.inl h)
  cases hu.symm.trans e2
  have hx : x.isRef = true := by
    rcases ref_cases hy with rfl | ⟨z, rfl⟩ <;> cases x <;> simp_all [Kin, Value.isRef]
  rw [e1, gotT (eq_R e1 hu hx hy) h]
theorem own_len {a0 : Array Value} {Z : State} {t : Term} {a : Addr} {cl : Cell} {ty : FieldType} {k : Int32} (ht : t.eval a0 Z none [] Z = some (.ref a)) (A : Arr Z Z.heap a cl ty) (h : (Jvm.Cond.eq (Term.length t) (Term.int k)).value a0 Z none Z [] = some true) : cl.slots.size < 2 ^ 31 ∧ cl.slots.size.toInt32 = k := by
  have e := own_eqi h
  have e2 := A.fin (Vm.Alike.refl _)
  simp [Term.eval, ht, e2] at e
  exact ⟨by omega, e.2⟩
theorem own_elem {a0 : Array Value} {Z : State} {t u : Term} {a : Addr} {cl : Cell} {j : Int32} {y : Value} (ht : t.eval a0 Z none [] Z = some (.ref a)) (hc : Z.heap[a]? = some cl) (h : (Jvm.Cond.eq (Term.elem t (Term.int j)) u).value a0 Z none Z [] = some true) (hu : u.eval a0 Z none [] Z = some y) (hy : y.isRef = true) : cl.slots[j.toNatClampNeg]? = some y := (elem_in (own_eqr h hu hy) ht (by rfl) hc).2
theorem own_fldi {a0 : Array Value} {Z : State} {t : Term} {k : Int32} {a : Addr} {C n d : String} (ht : t.eval a0 Z none [] Z = some (.ref a)) (h : (Jvm.Cond.eq (Term.field t C n d) (Term.int k)).value a0 Z none Z [] = some true) : Fld Z Z.heap a C n d (.int k) := Fld.start ((fld_at ht).symm.trans (own_eqi h))
end Own
theorem d6_0 : decode jdk_30_method_1_code 0 = .ok (.aload_n 0, 1) := by decide +kernel
theorem d6_1 : decode jdk_30_method_1_code 1 = .ok (.invokespecial 1, 3) := by decide +kernel
theorem d6_4 : decode jdk_30_method_1_code 4 = .ok (.return_, 1) := by decide +kernel
theorem d3_0 : decode jdk_22_method_1_code 0 = .ok (.aload_n 0, 1) := by decide +kernel
theorem d3_1 : decode jdk_22_method_1_code 1 = .ok (.invokespecial 1, 3) := by decide +kernel
theorem d3_4 : decode jdk_22_method_1_code 4 = .ok (.return_, 1) := by decide +kernel
theorem d8_0 : decode prog_29_method_1_code 0 = .ok (.aload_n 0, 1) := by decide +kernel
theorem d8_1 : decode prog_29_method_1_code 1 = .ok (.invokespecial 1, 3) := by decide +kernel
theorem d8_4 : decode prog_29_method_1_code 4 = .ok (.aload_n 0, 1) := by decide +kernel
theorem d8_5 : decode prog_29_method_1_code 5 = .ok (.iload_n 1, 1) := by decide +kernel
theorem d8_6 : decode prog_29_method_1_code 6 = .ok (.putfield 7, 3) := by decide +kernel
theorem d8_9 : decode prog_29_method_1_code 9 = .ok (.return_, 1) := by decide +kernel
theorem d2_0 : decode jdk_39_method_1_code 0 = .ok (.aload_n 0, 1) := by decide +kernel
theorem d2_1 : decode jdk_39_method_1_code 1 = .ok (.invokespecial 1, 3) := by decide +kernel
theorem d2_4 : decode jdk_39_method_1_code 4 = .ok (.aload_n 0, 1) := by decide +kernel
theorem d2_5 : decode jdk_39_method_1_code 5 = .ok (.iconst 0, 1) := by decide +kernel
theorem d2_6 : decode jdk_39_method_1_code 6 = .ok (.putfield 7, 3) := by decide +kernel
theorem d2_9 : decode jdk_39_method_1_code 9 = .ok (.return_, 1) := by decide +kernel
theorem d1_0 : decode jdk_38_method_2_code 0 = .ok (.aload_n 0, 1) := by decide +kernel
theorem d1_1 : decode jdk_38_method_2_code 1 = .ok (.invokespecial 1, 3) := by decide +kernel
theorem d1_4 : decode jdk_38_method_2_code 4 = .ok (.aload_n 0, 1) := by decide +kernel
theorem d1_5 : decode jdk_38_method_2_code 5 = .ok (.getstatic 39, 3) := by decide +kernel
theorem d1_8 : decode jdk_38_method_2_code 8 = .ok (.putfield 9, 3) := by decide +kernel
theorem d1_11 : decode jdk_38_method_2_code 11 = .ok (.return_, 1) := by decide +kernel
theorem d5_0 : decode prog_32_method_1_code 0 = .ok (.aload_n 0, 1) := by decide +kernel
theorem d5_1 : decode prog_32_method_1_code 1 = .ok (.invokespecial 1, 3) := by decide +kernel
theorem d5_4 : decode prog_32_method_1_code 4 = .ok (.aload_n 0, 1) := by decide +kernel
theorem d5_5 : decode prog_32_method_1_code 5 = .ok (.dload_n 1, 1) := by decide +kernel
theorem d5_6 : decode prog_32_method_1_code 6 = .ok (.putfield 7, 3) := by decide +kernel
theorem d5_9 : decode prog_32_method_1_code 9 = .ok (.aload_n 0, 1) := by decide +kernel
theorem d5_10 : decode prog_32_method_1_code 10 = .ok (.dload_n 3, 1) := by decide +kernel
theorem d5_11 : decode prog_32_method_1_code 11 = .ok (.putfield 13, 3) := by decide +kernel
theorem d5_14 : decode prog_32_method_1_code 14 = .ok (.return_, 1) := by decide +kernel
theorem d7_0 : decode prog_31_method_1_code 0 = .ok (.aload_n 0, 1) := by decide +kernel
theorem d7_1 : decode prog_31_method_1_code 1 = .ok (.invokespecial 1, 3) := by decide +kernel
theorem d7_4 : decode prog_31_method_1_code 4 = .ok (.aload_n 0, 1) := by decide +kernel
theorem d7_5 : decode prog_31_method_1_code 5 = .ok (.iload_n 1, 1) := by decide +kernel
theorem d7_6 : decode prog_31_method_1_code 6 = .ok (.putfield 7, 3) := by decide +kernel
theorem d7_9 : decode prog_31_method_1_code 9 = .ok (.aload_n 0, 1) := by decide +kernel
theorem d7_10 : decode prog_31_method_1_code 10 = .ok (.aload_n 2, 1) := by decide +kernel
theorem d7_11 : decode prog_31_method_1_code 11 = .ok (.putfield 13, 3) := by decide +kernel
theorem d7_14 : decode prog_31_method_1_code 14 = .ok (.aload_n 0, 1) := by decide +kernel
theorem d7_15 : decode prog_31_method_1_code 15 = .ok (.aload_n 3, 1) := by decide +kernel
theorem d7_16 : decode prog_31_method_1_code 16 = .ok (.putfield 17, 3) := by decide +kernel
theorem d7_19 : decode prog_31_method_1_code 19 = .ok (.return_, 1) := by decide +kernel
theorem d11_0 : decode prog_31_method_7_code 0 = .ok (.aload_n 0, 1) := by decide +kernel
theorem d11_1 : decode prog_31_method_7_code 1 = .ok (.getfield 7, 3) := by decide +kernel
theorem d11_4 : decode prog_31_method_7_code 4 = .ok (.ireturn, 1) := by decide +kernel
theorem d10_0 : decode prog_31_method_9_code 0 = .ok (.aload_n 0, 1) := by decide +kernel
theorem d10_1 : decode prog_31_method_9_code 1 = .ok (.getfield 17, 3) := by decide +kernel
theorem d10_4 : decode prog_31_method_9_code 4 = .ok (.areturn, 1) := by decide +kernel
theorem d12_0 : decode prog_32_method_6_code 0 = .ok (.aload_n 0, 1) := by decide +kernel
theorem d12_1 : decode prog_32_method_6_code 1 = .ok (.getfield 13, 3) := by decide +kernel
theorem d12_4 : decode prog_32_method_6_code 4 = .ok (.dreturn, 1) := by decide +kernel
theorem d13_0 : decode prog_32_method_5_code 0 = .ok (.aload_n 0, 1) := by decide +kernel
theorem d13_1 : decode prog_32_method_5_code 1 = .ok (.getfield 7, 3) := by decide +kernel
theorem d13_4 : decode prog_32_method_5_code 4 = .ok (.dreturn, 1) := by decide +kernel
theorem d9_0 : decode prog_29_method_3_code 0 = .ok (.aload_n 1, 1) := by decide +kernel
theorem d9_1 : decode prog_29_method_3_code 1 = .ok (.invokevirtual 13, 3) := by decide +kernel
theorem d9_4 : decode prog_29_method_3_code 4 = .ok (.astore_n 2, 1) := by decide +kernel
theorem d9_5 : decode prog_29_method_3_code 5 = .ok (.aload_n 1, 1) := by decide +kernel
theorem d9_6 : decode prog_29_method_3_code 6 = .ok (.invokevirtual 19, 3) := by decide +kernel
theorem d9_9 : decode prog_29_method_3_code 9 = .ok (.i2d, 1) := by decide +kernel
theorem d9_10 : decode prog_29_method_3_code 10 = .ok (.aload_n 2, 1) := by decide +kernel
theorem d9_11 : decode prog_29_method_3_code 11 = .ok (.invokevirtual 23, 3) := by decide +kernel
theorem d9_14 : decode prog_29_method_3_code 14 = .ok (.dmul, 1) := by decide +kernel
theorem d9_15 : decode prog_29_method_3_code 15 = .ok (.aload_n 0, 1) := by decide +kernel
theorem d9_16 : decode prog_29_method_3_code 16 = .ok (.getfield 7, 3) := by decide +kernel
theorem d9_19 : decode prog_29_method_3_code 19 = .ok (.i2d, 1) := by decide +kernel
theorem d9_20 : decode prog_29_method_3_code 20 = .ok (.aload_n 2, 1) := by decide +kernel
theorem d9_21 : decode prog_29_method_3_code 21 = .ok (.invokevirtual 29, 3) := by decide +kernel
theorem d9_24 : decode prog_29_method_3_code 24 = .ok (.dmul, 1) := by decide +kernel
theorem d9_25 : decode prog_29_method_3_code 25 = .ok (.dcmp .l, 1) := by decide +kernel
theorem d9_26 : decode prog_29_method_3_code 26 = .ok (.ifCond .le 7, 3) := by decide +kernel
theorem d9_29 : decode prog_29_method_3_code 29 = .ok (.iconst 1, 1) := by decide +kernel
theorem d9_30 : decode prog_29_method_3_code 30 = .ok (.goto 4, 3) := by decide +kernel
theorem d9_34 : decode prog_29_method_3_code 34 = .ok (.ireturn, 1) := by decide +kernel
theorem d9_33 : decode prog_29_method_3_code 33 = .ok (.iconst 0, 1) := by decide +kernel
theorem pd_0 : parseMethodDescriptor "()V" = some ⟨[], none⟩ := by decide +kernel
theorem pd_1 : parseMethodDescriptor "()Lcom/example/evenring/evenring/LoadView$Mean;" = some ⟨[], some (.object "com/example/evenring/evenring/LoadView$Mean")⟩ := by decide +kernel
theorem pd_2 : parseMethodDescriptor "()I" = some ⟨[], some .int⟩ := by decide +kernel
theorem pd_3 : parseMethodDescriptor "()D" = some ⟨[], some .double⟩ := by decide +kernel
theorem pd_4 : parseMethodDescriptor "(DD)V" = some ⟨[.double, .double], none⟩ := by decide +kernel
theorem pd_5 : parseMethodDescriptor "(ILjava/util/List;Lcom/example/evenring/evenring/LoadView$Mean;)V" = some ⟨[.int, (.object "java/util/List"), (.object "com/example/evenring/evenring/LoadView$Mean")], none⟩ := by decide +kernel
theorem pd_6 : parseMethodDescriptor "(I)V" = some ⟨[.int], none⟩ := by decide +kernel
theorem pd_7 : parseMethodDescriptor "(Lcom/example/evenring/evenring/LoadView;)Z" = some ⟨[(.object "com/example/evenring/evenring/LoadView")], some .boolean⟩ := by decide +kernel
theorem pn_6 : plainName "java/lang/Record" = true := by first | (simp [plainName, overriddenIn]; done) | decide +kernel
theorem pn_3 : plainName "java/util/AbstractCollection" = true := by first | (simp [plainName, overriddenIn]; done) | decide +kernel
theorem pn_8 : plainName "com/example/evenring/evenring/LoadState$Overall" = true := by first | (simp [plainName, overriddenIn]; done) | decide +kernel
theorem pn_2 : plainName "java/util/AbstractList" = true := by first | (simp [plainName, overriddenIn]; done) | decide +kernel
theorem pn_1 : plainName "java/util/ArrayList" = true := by first | (simp [plainName, overriddenIn]; done) | decide +kernel
theorem pn_5 : plainName "com/example/evenring/evenring/LoadView$Mean" = true := by first | (simp [plainName, overriddenIn]; done) | decide +kernel
theorem pn_7 : plainName "com/example/evenring/evenring/LoadView" = true := by first | (simp [plainName, overriddenIn]; done) | decide +kernel
theorem pn_11 : plainName "com/example/evenring/evenring/LoadView" = true := by first | (simp [plainName, overriddenIn]; done) | decide +kernel
theorem pn_10 : plainName "com/example/evenring/evenring/LoadView" = true := by first | (simp [plainName, overriddenIn]; done) | decide +kernel
theorem pn_12 : plainName "com/example/evenring/evenring/LoadView$Mean" = true := by first | (simp [plainName, overriddenIn]; done) | decide +kernel
theorem pn_13 : plainName "com/example/evenring/evenring/LoadView$Mean" = true := by first | (simp [plainName, overriddenIn]; done) | decide +kernel
theorem pn_9 : plainName "com/example/evenring/evenring/LoadState$Overall" = true := by first | (simp [plainName, overriddenIn]; done) | decide +kernel
theorem pn_0 : plainName "com/example/evenring/evenring/OverallIsOverloadedPinLaw" = true := by first | (simp [plainName, overriddenIn]; done) | decide +kernel
theorem ef_rm6 (m : MethodId) (x0 : Nat) : entryFrame m #[(.ref x0)] 1 = mkF m 0 #[.val (.ref x0)] [] := by first | (simp [entryFrame, mkF, argsToLocals, Value.category]; done) | rfl
theorem ef_rm3 (m : MethodId) (x0 : Nat) : entryFrame m #[(.ref x0)] 1 = mkF m 0 #[.val (.ref x0)] [] := by first | (simp [entryFrame, mkF, argsToLocals, Value.category]; done) | rfl
theorem ef_rm8 (m : MethodId) (x0 : Nat) (x1 : Int32) : entryFrame m #[(.ref x0), (.int x1)] 2 = mkF m 0 #[.val (.ref x0), .val (.int x1)] [] := by first | (simp [entryFrame, mkF, argsToLocals, Value.category]; done) | rfl
theorem ef_rm2 (m : MethodId) (x0 : Nat) : entryFrame m #[(.ref x0)] 1 = mkF m 0 #[.val (.ref x0)] [] := by first | (simp [entryFrame, mkF, argsToLocals, Value.category]; done) | rfl
theorem ef_rm1 (m : MethodId) (x0 : Nat) : entryFrame m #[(.ref x0)] 1 = mkF m 0 #[.val (.ref x0)] [] := by first | (simp [entryFrame, mkF, argsToLocals, Value.category]; done) | rfl
theorem ef_rm5 (m : MethodId) (x0 : Nat) (x1 : UInt64) (x2 : UInt64) : entryFrame m #[(.ref x0), (.double x1), (.double x2)] 5 = mkF m 0 #[.val (.ref x0), .val (.double x1), .second, .val (.double x2), .second] [] := by first | (simp [entryFrame, mkF, argsToLocals, Value.category]; done) | rfl
theorem ef_rm7 (m : MethodId) (x0 : Nat) (x1 : Int32) (x2 : Nat) (x3 : Nat) : entryFrame m #[(.ref x0), (.int x1), (.ref x2), (.ref x3)] 4 = mkF m 0 #[.val (.ref x0), .val (.int x1), .val (.ref x2), .val (.ref x3)] [] := by first | (simp [entryFrame, mkF, argsToLocals, Value.category]; done) | rfl
theorem ef_rm11 (m : MethodId) (x0 : Nat) : entryFrame m #[(.ref x0)] 1 = mkF m 0 #[.val (.ref x0)] [] := by first | (simp [entryFrame, mkF, argsToLocals, Value.category]; done) | rfl
theorem ef_rm10 (m : MethodId) (x0 : Nat) : entryFrame m #[(.ref x0)] 1 = mkF m 0 #[.val (.ref x0)] [] := by first | (simp [entryFrame, mkF, argsToLocals, Value.category]; done) | rfl
theorem ef_rm12 (m : MethodId) (x0 : Nat) : entryFrame m #[(.ref x0)] 1 = mkF m 0 #[.val (.ref x0)] [] := by first | (simp [entryFrame, mkF, argsToLocals, Value.category]; done) | rfl
theorem ef_rm13 (m : MethodId) (x0 : Nat) : entryFrame m #[(.ref x0)] 1 = mkF m 0 #[.val (.ref x0)] [] := by first | (simp [entryFrame, mkF, argsToLocals, Value.category]; done) | rfl
theorem ef_rm9 (m : MethodId) (x0 : Nat) (x1 : Nat) : entryFrame m #[(.ref x0), (.ref x1)] 3 = mkF m 0 #[.val (.ref x0), .val (.ref x1), .unset] [] := by first | (simp [entryFrame, mkF, argsToLocals, Value.category]; done) | rfl
theorem ef_rm0 (m : MethodId) (x0 : Int32) (x1 : Int32) (x2 : Int32) (x3 : Int32) : entryFrame m #[(.int x0), (.int x1), (.int x2), (.int x3)] maxLocals = mkF m 0 #[.val (.int x0), .val (.int x1), .val (.int x2), .val (.int x3), .unset, .unset, .unset, .unset, .unset, .unset, .unset, .unset, .unset] [] := by first | (simp [entryFrame, mkF, argsToLocals, Value.category, maxLocals]; done) | rfl
def own_quart (i : Int) : Jvm.FP.Core.Datum → Prop
  | .fin s c q => Jvm.FP.Core.Whole i (.fin s c (q + 2))
  | _ => False
theorem own_quart_fit (s : Bool) {n : Nat} (hn : n ≤ 2 ^ 53) : ∃ c q, Jvm.FP.Core.fits Jvm.FP.Core.b64 (.fin s c q) ∧ n * 2 ^ (0 - (q + 2)).toNat = c * 1 * 2 ^ (q + 2 - 0).toNat := by
  have hq1 : Jvm.FP.Core.b64.qmin = -1074 := by decide +kernel
  have hq2 : Jvm.FP.Core.b64.qmax = 971 := by decide +kernel
  have ht : Jvm.FP.Core.b64.tails = 2 ^ 52 := by decide +kernel
  by_cases h0 : n = 0
  · subst h0; exact ⟨0, Jvm.FP.Core.b64.qmin, Jvm.FP.Core.zero_fits Jvm.FP.Core.good_b64 s, by simp⟩
  by_cases hp : n = 2 ^ 53
  · refine ⟨2 ^ 52, -1, ⟨show (2 : Nat) ^ 52 < 2 ^ 53 by decide, by omega, by omega, .inr (by rw [ht]; exact Nat.le_refl _)⟩, ?_⟩
    rw [hp]; decide
  · have l1 : 2 ^ n.log2 ≤ n := Nat.log2_self_le h0
    have l2 : n < 2 ^ (n.log2 + 1) := Nat.lt_log2_self
    have l3 : n.log2 < 53 := (Nat.pow_lt_pow_iff_right (by decide : 1 < 2)).mp (Nat.lt_of_le_of_lt l1 (by omega))
    generalize n.log2 = L at l1 l2 l3
    refine ⟨n * 2 ^ (52 - L), (L : Int) - 54, ⟨?_, by omega, by omega, .inr ?_⟩, ?_⟩
    · calc n * 2 ^ (52 - L) < 2 ^ (L + 1) * 2 ^ (52 - L) := Nat.mul_lt_mul_of_pos_right l2 (Nat.two_pow_pos _)
        _ = 2 ^ 53 := by rw [← Nat.pow_add]; congr 1; omega
    · rw [ht]
      calc 2 ^ 52 = 2 ^ L * 2 ^ (52 - L) := by rw [← Nat.pow_add]; congr 1; omega
        _ ≤ n * 2 ^ (52 - L) := Nat.mul_le_mul_right _ l1
    · rw [show (0 - ((L : Int) - 54 + 2)).toNat = 52 - L by omega, show ((L : Int) - 54 + 2 - 0).toNat = 0 by omega]
      simp
theorem own_quart_round {i : Int} (hi : i.natAbs ≤ 2 ^ 53) {s : Bool} {c : Nat} {q : Int} (h : Jvm.FP.Core.Whole i (.fin s c (q + 2))) : own_quart i (Jvm.FP.Core.roundRatio Jvm.FP.Core.b64 s c 1 q) := by
  obtain ⟨c', q', hfit, hv⟩ := own_quart_fit s hi
  have e : Jvm.FP.Core.roundRatio Jvm.FP.Core.b64 s c 1 q = Jvm.FP.Core.roundRatio Jvm.FP.Core.b64 s i.natAbs 1 (-2) := by
    refine Jvm.FP.Core.roundRatio_congr (by decide) (by decide) ?_
    have := Jvm.FP.Core.whole_natAbs h
    rw [show (q - -2).toNat = (q + 2).toNat by omega, show (-2 - q).toNat = (-(q + 2)).toNat by omega]
    simpa using this
  rw [e, Jvm.FP.Core.roundRatio_exact Jvm.FP.Core.good_b64 (by decide) hfit (by
    rw [show (-2 - q').toNat = (0 - (q' + 2)).toNat by omega, show (q' - -2).toNat = (q' + 2 - 0).toNat by omega]; exact hv)]
  show Jvm.FP.Core.signed s (c' * 2 ^ (q' + 2).toNat) = i * _
  rw [show (0 - (q' + 2)).toNat = (-(q' + 2)).toNat by omega, show (q' + 2 - 0).toNat = (q' + 2).toNat by omega, Nat.mul_one] at hv
  rw [← hv, Jvm.FP.Core.signed_mul]
  congr 1
  by_cases hi0 : i = 0
  · rw [hi0]; exact Jvm.FP.Core.signed_zero s
  · rw [Jvm.FP.Core.whole_sign h hi0]
    unfold Jvm.FP.Core.signed
    by_cases h : i < 0 <;> simp [h] <;> omega
theorem own_quart_four : Jvm.FP.Core.val64 4616189618054758400 = .fin false (2 ^ 52) (-50) := by decide +kernel
theorem own_quart_div (x : Int32) : own_quart x.toInt (Jvm.FP.Core.val64 (FP.ddiv (FP.i2d x) 4616189618054758400)) := by
  have h := Jvm.FP.Core.i2d_int x
  have h1 := x.toInt_lt
  have h2 := x.le_toInt
  unfold Jvm.FP.Core.DInt at h
  rw [Jvm.FP.Core.val64_ddiv, own_quart_four]
  revert h
  cases Jvm.FP.Core.val64 (Jvm.FP.Core.i2d x) with
  | nan => exact fun h => h.elim
  | inf => exact fun h => h.elim
  | fin s c q =>
    intro h
    show own_quart _ (if 2 ^ 52 = 0 then (if c = 0 then Jvm.FP.Core.Datum.nan else .inf (s != false)) else Jvm.FP.Core.roundRatio Jvm.FP.Core.b64 (s != false) c (2 ^ 52) (q - -50))
    rw [if_neg (by decide), show (s != false) = s by cases s <;> rfl]
    have e : Jvm.FP.Core.roundRatio Jvm.FP.Core.b64 s c (2 ^ 52) (q - -50) = Jvm.FP.Core.roundRatio Jvm.FP.Core.b64 s c 1 (q - 2) := by
      refine Jvm.FP.Core.roundRatio_congr (by decide) (by decide) ?_
      rw [show (q - -50 - (q - 2)).toNat = 52 by omega, show (q - 2 - (q - -50)).toNat = 0 by omega]
      simp
    rw [e]
    exact own_quart_round (show _ ≤ 2 ^ 53 by omega) (by rw [show q - 2 + 2 = q by omega]; exact h)
theorem own_quart_mul {i j : Int} {a b : UInt64} (ha : Jvm.FP.Core.DInt i a) (hb : own_quart j (Jvm.FP.Core.val64 b)) (h : (i * j).natAbs ≤ 2 ^ 53) : own_quart (i * j) (Jvm.FP.Core.val64 (FP.dmul a b)) := by
  unfold Jvm.FP.Core.DInt at ha
  rw [Jvm.FP.Core.val64_dmul]
  revert ha hb
  cases Jvm.FP.Core.val64 a with
  | nan => exact fun h => h.elim
  | inf => exact fun h => h.elim
  | fin s c q =>
    cases Jvm.FP.Core.val64 b with
    | nan => exact fun _ h => h.elim
    | inf => exact fun _ h => h.elim
    | fin t d r =>
      intro ha hb
      have p := Jvm.FP.Core.whole_product ha (show Jvm.FP.Core.Whole j (.fin t d (r + 2)) from hb)
      show own_quart _ (Jvm.FP.Core.roundRatio Jvm.FP.Core.b64 (s != t) (c * d) 1 (q + r))
      exact own_quart_round h (by rw [show q + r + 2 = q + (r + 2) by omega]; exact p)
theorem own_quart_cmp {i j : Int} {a b : UInt64} (ha : own_quart i (Jvm.FP.Core.val64 a)) (hb : own_quart j (Jvm.FP.Core.val64 b)) : FP.dcmp a b = some (compare i j) := by
  show Jvm.FP.Core.order (Jvm.FP.Core.val64 a) (Jvm.FP.Core.val64 b) = _
  revert ha hb
  cases Jvm.FP.Core.val64 a with
  | nan => exact fun h => h.elim
  | inf => exact fun h => h.elim
  | fin s c q =>
    cases Jvm.FP.Core.val64 b with
    | nan => exact fun _ h => h.elim
    | inf => exact fun _ h => h.elim
    | fin t d r =>
      intro ha hb
      have p := Jvm.FP.Core.order_whole (show Jvm.FP.Core.Whole i (.fin s c (q + 2)) from ha) (show Jvm.FP.Core.Whole j (.fin t d (r + 2)) from hb)
      rw [← p]
      simp only [Jvm.FP.Core.order, Jvm.FP.Core.inUnits, show min (q + 2) (r + 2) = min q r + 2 by omega, show q + 2 - (min q r + 2) = q - min q r by omega, show r + 2 - (min q r + 2) = r - min q r by omega]
theorem own_quart_num {i : Int} {a : UInt64} (h : own_quart i (Jvm.FP.Core.val64 a)) : Jvm.Free.Fl.NoNaN64 a := by
  refine Jvm.Free.Fl.Fin64.noNaN (Jvm.Free.Fl.fin64_core.mpr ?_)
  revert h
  unfold Jvm.FP.Core.DFin
  cases Jvm.FP.Core.val64 a with
  | nan => exact fun h => h.elim
  | inf => exact fun h => h.elim
  | fin s c q => exact fun _ => ⟨s, c, q, rfl⟩
theorem own_quart_pos {i j : Int} {a b : UInt64} (ha : own_quart i (Jvm.FP.Core.val64 a)) (hb : own_quart j (Jvm.FP.Core.val64 b)) : (0 : Int32) < Jvm.Op.cmpValue (FP.dcmp a b) .l ↔ j < i := by
  rw [own_quart_cmp ha hb, show compare i j = (if i < j then Ordering.lt else if i = j then .eq else .gt) from rfl]
  by_cases h1 : i < j
  · rw [if_pos h1]; exact ⟨fun q => absurd q (by decide), fun q => by omega⟩
  · rw [if_neg h1]
    by_cases h2 : i = j
    · rw [if_pos h2]; exact ⟨fun q => absurd q (by decide), fun q => by omega⟩
    · rw [if_neg h2]; exact ⟨fun _ => by omega, fun _ => by decide⟩
theorem own_quart_abs (x y : Int) {A B : Nat} (hx : x.natAbs ≤ A) (hy : y.natAbs ≤ B) : (x * y).natAbs ≤ A * B := by rw [Int.natAbs_mul]; exact Nat.mul_le_mul hx hy
theorem own_quart_long (x y : Int32) (h : (x.toInt * y.toInt).natAbs ≤ 2 ^ 53) : (x.toInt64 * y.toInt64).toInt = x.toInt * y.toInt := by
  rw [Int64.toInt_mul, Int32.toInt_toInt64, Int32.toInt_toInt64]
  exact Int.bmod_eq_of_le (by omega) (by omega)
theorem own_over (ld fa mq pq : Int32) (hm : -1048576 ≤ mq.toInt ∧ mq.toInt < 1048576) (hp : 0 ≤ pq.toInt ∧ pq.toInt < 2097152) :
    Jvm.Free.Fl.NoNaN64 (FP.dmul (FP.i2d ld) (FP.ddiv (FP.i2d pq) (4616189618054758400 : UInt64))) ∧ Jvm.Free.Fl.NoNaN64 (FP.dmul (FP.i2d fa) (FP.ddiv (FP.i2d mq) (4616189618054758400 : UInt64))) ∧
    ((0 : Int32) < Jvm.Op.cmpValue (FP.dcmp (FP.dmul (FP.i2d ld) (FP.ddiv (FP.i2d pq) (4616189618054758400 : UInt64))) (FP.dmul (FP.i2d fa) (FP.ddiv (FP.i2d mq) (4616189618054758400 : UInt64)))) .l ↔ (fa.toInt64 * mq.toInt64) < (ld.toInt64 * pq.toInt64)) := by
  have h1 := ld.toInt_lt
  have h2 := ld.le_toInt
  have h3 := fa.toInt_lt
  have h4 := fa.le_toInt
  have b1 : (ld.toInt * pq.toInt).natAbs ≤ 2 ^ 53 := Nat.le_trans (own_quart_abs _ _ (A := 2 ^ 31) (B := 2 ^ 21) (by omega) (by omega)) (by decide)
  have b2 : (fa.toInt * mq.toInt).natAbs ≤ 2 ^ 53 := Nat.le_trans (own_quart_abs _ _ (A := 2 ^ 31) (B := 2 ^ 20) (by omega) (by omega)) (by decide)
  have q1 := own_quart_mul (Jvm.FP.Core.i2d_int ld) (own_quart_div pq) b1
  have q2 := own_quart_mul (Jvm.FP.Core.i2d_int fa) (own_quart_div mq) b2
  refine ⟨own_quart_num q1, own_quart_num q2, (own_quart_pos q1 q2).trans ?_⟩
  rw [Int64.lt_iff_toInt_lt, own_quart_long _ _ b1, own_quart_long _ _ b2]

def Q_rm6 (Z : State) (self : Nat) (h0 : Heap) (n0 : Nat) (v : Option Value) (h : Heap) (L : List Loc) : Prop := (v = none) ∧ (Fr n0 L) ∧ (h = h0)
set_option maxRecDepth 65536 in
set_option maxHeartbeats 40000000 in
theorem rm6 (l : Launch) (Z : State) (a0 : Array Value) (hw : ∀ d ∈ tables_1, d.before a0 Z = true) (ws : List Jvm.Cond) (self : Nat) (h0 : Heap) (n0 : Nat) (Z0 : n0 ≤ h0.size) :
    MetFree l (⟨"java/lang/Record", "<init>", "()V"⟩ : MethodName) (head1 (Jvm.Cond.code (⟨"java/lang/Record", "<init>", "()V"⟩ : MethodName) jdk_30_method_1_code 1 none :: ws) ({ frames := 1, cells := 0, slots := 0, locals := 12 } : Room)) (fun a U => a = #[(.ref self)] ∧ Z.Warmed39 U.vm ∧ U.heap = h0) (fun _ _ _ _ _ => True) (fun _ U o U' => ∃ v L, o = .returned v ∧ Q_rm6 Z self h0 n0 v U'.heap L ∧ FrameEnd U o U' L ({ frames := 1, cells := 0, slots := 0, locals := 12 } : Room).cells ({ frames := 1, cells := 0, slots := 0, locals := 12 } : Room).slots) := by
  refine MetFree.of_bodySF (plainFor_of_name pn_6) hisR ?_
  intro p e s m args below meth c s₁ Bd hml0 hP hK
  obtain ⟨rfl, hZ, hh⟩ := hP
  have hx := Bd.exec
  have hby := Bd.bytes
  have hml : c.maxLocals = 1 := hml0
  have hown : s.vm.findClass "java/lang/Record" = some m.cls := findClass_of_methodNamed Bd.named
  have hnm := (name_of_methodNamed Bd.named Bd.method).1
  have hlk : meth.locks = false := Bd.notSynchronized
  have X0 : Stand p l e ({ frames := 1, cells := 0, slots := 0, locals := 12 } : Room) s m #[(.ref self)] below meth c s₁ [] 0 0 := Stand.of_body Bd
  have e0 : s₁.heap = h0 := by rw [← hh, Bd.state]; rfl
  have N0 := Fr.nil n0
  refine Comes.out (Q := Q_rm6 Z self h0 n0) (kc := ({ frames := 1, cells := 0, slots := 0, locals := 12 } : Room).cells) (ks := ({ frames := 1, cells := 0, slots := 0, locals := 12 } : Room).slots) ?_
  refine Comes.cast (ef_rm6 m self) ?_
  show Comes p e below _ (s₁.setTop (mkF m 0 #[.val (.ref self)] []))
  refine Comes.st (fun t k => XS.aloadN X0.here hx rfl (hb hby d6_0) rfl rfl k) ?_
  show Comes p e below _ (s₁.setTop (mkF m 1 #[.val (.ref self)] [(.ref self)]))
  obtain ⟨T1, X1, e1, st1⟩ := initO X0 hx hZ hown (hw _ (List.mem_of_getElem? (i := 42) rfl)) (hw _ (List.mem_of_getElem? (i := 24) rfl)) (hw _ (List.mem_of_getElem? (i := 25) rfl)) e0 (g := (mkF m 1 #[.val (.ref self)] [(.ref self)])) rfl (by rw [hml]; rfl) rfl (hb hby d6_1) (by decide) (W := 0) (by show 2 * 0 + _ ≤ _; exact Nat.le_of_eq rfl) (by decide)
  refine Comes.st st1 ?_
  show Comes p e below _ (T1.setTop (mkF m 4 #[.val (.ref self)] []))
  exact Comes.ret0 X1 hx Bd.returns hlk (hb hby d6_4) e1 ⟨rfl, N0, rfl⟩ (by decide) (by decide)
def Q_rm3 (Z : State) (self : Nat) (h0 : Heap) (n0 : Nat) (v : Option Value) (h : Heap) (L : List Loc) : Prop := (v = none) ∧ (Fr n0 L) ∧ (h = h0)
set_option maxRecDepth 65536 in
set_option maxHeartbeats 40000000 in
theorem rm3 (l : Launch) (Z : State) (a0 : Array Value) (hw : ∀ d ∈ tables_1, d.before a0 Z = true) (ws : List Jvm.Cond) (self : Nat) (h0 : Heap) (n0 : Nat) (Z0 : n0 ≤ h0.size) :
    MetFree l (⟨"java/util/AbstractCollection", "<init>", "()V"⟩ : MethodName) (head1 (Jvm.Cond.code (⟨"java/util/AbstractCollection", "<init>", "()V"⟩ : MethodName) jdk_22_method_1_code 1 none :: ws) ({ frames := 1, cells := 0, slots := 0, locals := 12 } : Room)) (fun a U => a = #[(.ref self)] ∧ Z.Warmed39 U.vm ∧ U.heap = h0) (fun _ _ _ _ _ => True) (fun _ U o U' => ∃ v L, o = .returned v ∧ Q_rm3 Z self h0 n0 v U'.heap L ∧ FrameEnd U o U' L ({ frames := 1, cells := 0, slots := 0, locals := 12 } : Room).cells ({ frames := 1, cells := 0, slots := 0, locals := 12 } : Room).slots) := by
  refine MetFree.of_bodySF (plainFor_of_name pn_3) hisR ?_
  intro p e s m args below meth c s₁ Bd hml0 hP hK
  obtain ⟨rfl, hZ, hh⟩ := hP
  have hx := Bd.exec
  have hby := Bd.bytes
  have hml : c.maxLocals = 1 := hml0
  have hown : s.vm.findClass "java/util/AbstractCollection" = some m.cls := findClass_of_methodNamed Bd.named
  have hnm := (name_of_methodNamed Bd.named Bd.method).1
  have hlk : meth.locks = false := Bd.notSynchronized
  have X0 : Stand p l e ({ frames := 1, cells := 0, slots := 0, locals := 12 } : Room) s m #[(.ref self)] below meth c s₁ [] 0 0 := Stand.of_body Bd
  have e0 : s₁.heap = h0 := by rw [← hh, Bd.state]; rfl
  have N0 := Fr.nil n0
  refine Comes.out (Q := Q_rm3 Z self h0 n0) (kc := ({ frames := 1, cells := 0, slots := 0, locals := 12 } : Room).cells) (ks := ({ frames := 1, cells := 0, slots := 0, locals := 12 } : Room).slots) ?_
  refine Comes.cast (ef_rm3 m self) ?_
  show Comes p e below _ (s₁.setTop (mkF m 0 #[.val (.ref self)] []))
  refine Comes.st (fun t k => XS.aloadN X0.here hx rfl (hb hby d3_0) rfl rfl k) ?_
  show Comes p e below _ (s₁.setTop (mkF m 1 #[.val (.ref self)] [(.ref self)]))
  obtain ⟨T1, X1, e1, st1⟩ := initO X0 hx hZ hown (hw _ (List.mem_of_getElem? (i := 23) rfl)) (hw _ (List.mem_of_getElem? (i := 24) rfl)) (hw _ (List.mem_of_getElem? (i := 25) rfl)) e0 (g := (mkF m 1 #[.val (.ref self)] [(.ref self)])) rfl (by rw [hml]; rfl) rfl (hb hby d3_1) (by decide) (W := 0) (by show 2 * 0 + _ ≤ _; exact Nat.le_of_eq rfl) (by decide)
  refine Comes.st st1 ?_
  show Comes p e below _ (T1.setTop (mkF m 4 #[.val (.ref self)] []))
  exact Comes.ret0 X1 hx Bd.returns hlk (hb hby d3_4) e1 ⟨rfl, N0, rfl⟩ (by decide) (by decide)
def Q_rm8 (Z : State) (self : Nat) (fc : Int32) (h0 : Heap) (n0 : Nat) (v : Option Value) (h : Heap) (L : List Loc) : Prop := (v = none) ∧ (Fr n0 L) ∧ (Keep h0 h [self]) ∧ (Exa Z h self "com/example/evenring/evenring/LoadState$Overall") ∧ (Fld Z h self "com/example/evenring/evenring/LoadState$Overall" "factor" "I" (.int fc))
set_option maxRecDepth 65536 in
set_option maxHeartbeats 40000000 in
theorem rm8 (l : Launch) (Z : State) (a0 : Array Value) (hw : ∀ d ∈ tables_1, d.before a0 Z = true) (ws : List Jvm.Cond) (self : Nat) (fc : Int32) (h0 : Heap) (n0 : Nat) (Z0 : n0 ≤ h0.size) (G0 : Exa Z h0 self "com/example/evenring/evenring/LoadState$Overall") (G1 : Fld Z h0 self "com/example/evenring/evenring/LoadState$Overall" "factor" "I" (.int (0 : Int32))) (G2 : n0 ≤ self) :
    MetFree l (⟨"com/example/evenring/evenring/LoadState$Overall", "<init>", "(I)V"⟩ : MethodName) (head1 (Jvm.Cond.code (⟨"com/example/evenring/evenring/LoadState$Overall", "<init>", "(I)V"⟩ : MethodName) prog_29_method_1_code 2 none :: ws) ({ frames := 2, cells := 0, slots := 0, locals := 24 } : Room)) (fun a U => a = #[(.ref self), (.int fc)] ∧ Z.Warmed39 U.vm ∧ U.heap = h0) (fun _ _ _ _ _ => True) (fun _ U o U' => ∃ v L, o = .returned v ∧ Q_rm8 Z self fc h0 n0 v U'.heap L ∧ FrameEnd U o U' L ({ frames := 2, cells := 0, slots := 0, locals := 24 } : Room).cells ({ frames := 2, cells := 0, slots := 0, locals := 24 } : Room).slots) := by
  refine MetFree.of_bodySF (plainFor_of_name pn_8) hisR ?_
  intro p e s m args below meth c s₁ Bd hml0 hP hK
  obtain ⟨rfl, hZ, hh⟩ := hP
  have hx := Bd.exec
  have hby := Bd.bytes
  have hml : c.maxLocals = 2 := hml0
  have hown : s.vm.findClass "com/example/evenring/evenring/LoadState$Overall" = some m.cls := findClass_of_methodNamed Bd.named
  have hnm := (name_of_methodNamed Bd.named Bd.method).1
  have hlk : meth.locks = false := Bd.notSynchronized
  have X0 : Stand p l e ({ frames := 2, cells := 0, slots := 0, locals := 24 } : Room) s m #[(.ref self), (.int fc)] below meth c s₁ [] 0 0 := Stand.of_body Bd
  have e0 : s₁.heap = h0 := by rw [← hh, Bd.state]; rfl
  have N0 := Fr.nil n0
  have K0 := Keep.refl h0 [self]
  refine Comes.out (Q := Q_rm8 Z self fc h0 n0) (kc := ({ frames := 2, cells := 0, slots := 0, locals := 24 } : Room).cells) (ks := ({ frames := 2, cells := 0, slots := 0, locals := 24 } : Room).slots) ?_
  refine Comes.cast (ef_rm8 m self fc) ?_
  have lt_self : self < h0.size := G0.lt
  show Comes p e below _ (s₁.setTop (mkF m 0 #[.val (.ref self), .val (.int fc)] []))
  refine Comes.st (fun t k => XS.aloadN X0.here hx rfl (hb hby d8_0) rfl rfl k) ?_
  show Comes p e below _ (s₁.setTop (mkF m 1 #[.val (.ref self), .val (.int fc)] [(.ref self)]))
  obtain ⟨_, _, ⟨T1, L1, k1, n1⟩, -, X1, ⟨Lc1, hQ1, l1, y1, z1⟩, st1⟩ := X0.specialBack hx (y := (⟨"java/lang/Record", "<init>", "()V"⟩ : MethodName)) rfl hown (mvT hZ (hw _ (List.mem_of_getElem? (i := 63) rfl))) (mvT hZ (hw _ (List.mem_of_getElem? (i := 38) rfl))) (mvT hZ (hw _ (List.mem_of_getElem? (i := 41) rfl))) (by decide) (backOf (W := 0) (rm6 l Z a0 hw [] self h0 n0 (by omega)  ) hZ (hw _ (List.mem_of_getElem? (i := 41) rfl)) (hw _ (List.mem_of_getElem? (i := 40) rfl)) (by decide) (by decide)) (g := (mkF m 1 #[.val (.ref self), .val (.int fc)] [(.ref self)])) rfl (by rw [hml]; rfl) (Steps.refl _) (a := self) (argsL := []) (rest := []) (lenOf pd_0 rfl) rfl (by show 2 * 0 + _ ≤ _; exact Nat.le_of_eq rfl) (hb hby d8_1) (fun _ _ => ⟨rfl, e0, (by decide : 0 + 0 ≤ _), (by decide : 0 + 0 ≤ _)⟩)
  dsimp only [Pt.U, Pt.locs, Pt.cells, Pt.slots] at X1 l1 y1 z1 st1 hQ1
  subst l1 y1 z1
  obtain ⟨rfl, Nq1, hs1⟩ := hQ1
  have N1 := Fr.app N0 Nq1
  refine Comes.go st1 ?_
  show Comes p e below _ (T1.setTop (mkF m 4 #[.val (.ref self), .val (.int fc)] []))
  refine Comes.st (fun t k => XS.aloadN X1.here hx rfl (hb hby d8_4) rfl rfl (XS.iloadN X1.here hx rfl (hb hby d8_5) rfl k)) ?_
  show Comes p e below _ (T1.setTop (mkF m 6 #[.val (.ref self), .val (.int fc)] [(.int fc), (.ref self)]))
  obtain ⟨T2, h2, X2, e2, W2, st2⟩ := putF X1 hx hZ hown (host := "") (Or.inl (hw _ (List.mem_of_getElem? (i := 64) rfl))) Via.refl hs1 G1 G0 (Or.inr ⟨(hw _ (List.mem_of_getElem? (i := 65) rfl)), rfl, hnm⟩) (hw _ (List.mem_of_getElem? (i := 58) rfl)) (ty := .int) (by decide) rfl rfl (g := (mkF m 6 #[.val (.ref self), .val (.int fc)] [(.int fc), (.ref self)])) rfl rfl (hb hby d8_6)
  have Fw2 := G1.same W2
  have z2 : h2.size = h0.size := W2.size
  have gn3 : n0 ≤ self := by omega
  have N2 := Fr.snoc X2 N1 gn3
  have K2 : Keep h0 h2 [self] := K0.wr W2 (Or.inl (List.mem_of_getElem? (i := 0) rfl))
  refine Comes.st st2 ?_
  show Comes p e below _ (T2.setTop (mkF m 9 #[.val (.ref self), .val (.int fc)] []))
  have F4 : Exa Z h2 self "com/example/evenring/evenring/LoadState$Overall" := (G0.wr W2)
  exact Comes.ret0 X2 hx Bd.returns hlk (hb hby d8_9) e2 ⟨rfl, N2, K2, F4, Fw2⟩ (by decide) (by decide)
def Q_rm2 (Z : State) (self : Nat) (h0 : Heap) (n0 : Nat) (v : Option Value) (h : Heap) (L : List Loc) : Prop := (v = none) ∧ (Fr n0 L) ∧ (Keep h0 h [self]) ∧ (Exa Z h self "java/util/ArrayList") ∧ (Fld Z h self "java/util/ArrayList" "elementData" "[Ljava/lang/Object;" .null) ∧ (Fld Z h self "java/util/AbstractList" "modCount" "I" (.int (0 : Int32)))
set_option maxRecDepth 65536 in
set_option maxHeartbeats 40000000 in
theorem rm2 (l : Launch) (Z : State) (a0 : Array Value) (hw : ∀ d ∈ tables_1, d.before a0 Z = true) (ws : List Jvm.Cond) (self : Nat) (h0 : Heap) (n0 : Nat) (Z0 : n0 ≤ h0.size) (G0 : Exa Z h0 self "java/util/ArrayList") (G1 : Fld Z h0 self "java/util/ArrayList" "elementData" "[Ljava/lang/Object;" .null) (G2 : Fld Z h0 self "java/util/AbstractList" "modCount" "I" (.int (0 : Int32))) (G3 : n0 ≤ self) :
    MetFree l (⟨"java/util/AbstractList", "<init>", "()V"⟩ : MethodName) (head1 (Jvm.Cond.code (⟨"java/util/AbstractList", "<init>", "()V"⟩ : MethodName) jdk_39_method_1_code 1 none :: ws) ({ frames := 2, cells := 0, slots := 0, locals := 24 } : Room)) (fun a U => a = #[(.ref self)] ∧ Z.Warmed39 U.vm ∧ U.heap = h0) (fun _ _ _ _ _ => True) (fun _ U o U' => ∃ v L, o = .returned v ∧ Q_rm2 Z self h0 n0 v U'.heap L ∧ FrameEnd U o U' L ({ frames := 2, cells := 0, slots := 0, locals := 24 } : Room).cells ({ frames := 2, cells := 0, slots := 0, locals := 24 } : Room).slots) := by
  refine MetFree.of_bodySF (plainFor_of_name pn_2) hisR ?_
  intro p e s m args below meth c s₁ Bd hml0 hP hK
  obtain ⟨rfl, hZ, hh⟩ := hP
  have hx := Bd.exec
  have hby := Bd.bytes
  have hml : c.maxLocals = 1 := hml0
  have hown : s.vm.findClass "java/util/AbstractList" = some m.cls := findClass_of_methodNamed Bd.named
  have hnm := (name_of_methodNamed Bd.named Bd.method).1
  have hlk : meth.locks = false := Bd.notSynchronized
  have X0 : Stand p l e ({ frames := 2, cells := 0, slots := 0, locals := 24 } : Room) s m #[(.ref self)] below meth c s₁ [] 0 0 := Stand.of_body Bd
  have e0 : s₁.heap = h0 := by rw [← hh, Bd.state]; rfl
  have N0 := Fr.nil n0
  have K0 := Keep.refl h0 [self]
  refine Comes.out (Q := Q_rm2 Z self h0 n0) (kc := ({ frames := 2, cells := 0, slots := 0, locals := 24 } : Room).cells) (ks := ({ frames := 2, cells := 0, slots := 0, locals := 24 } : Room).slots) ?_
  refine Comes.cast (ef_rm2 m self) ?_
  have lt_self : self < h0.size := G0.lt
  show Comes p e below _ (s₁.setTop (mkF m 0 #[.val (.ref self)] []))
  refine Comes.st (fun t k => XS.aloadN X0.here hx rfl (hb hby d2_0) rfl rfl k) ?_
  show Comes p e below _ (s₁.setTop (mkF m 1 #[.val (.ref self)] [(.ref self)]))
  obtain ⟨_, _, ⟨T1, L1, k1, n1⟩, -, X1, ⟨Lc1, hQ1, l1, y1, z1⟩, st1⟩ := X0.specialBack hx (y := (⟨"java/util/AbstractCollection", "<init>", "()V"⟩ : MethodName)) rfl hown (mvT hZ (hw _ (List.mem_of_getElem? (i := 17) rfl))) (mvT hZ (hw _ (List.mem_of_getElem? (i := 18) rfl))) (mvT hZ (hw _ (List.mem_of_getElem? (i := 22) rfl))) (by decide) (backOf (W := 0) (rm3 l Z a0 hw [] self h0 n0 (by omega)  ) hZ (hw _ (List.mem_of_getElem? (i := 22) rfl)) (hw _ (List.mem_of_getElem? (i := 21) rfl)) (by decide) (by decide)) (g := (mkF m 1 #[.val (.ref self)] [(.ref self)])) rfl (by rw [hml]; rfl) (Steps.refl _) (a := self) (argsL := []) (rest := []) (lenOf pd_0 rfl) rfl (by show 2 * 0 + _ ≤ _; exact Nat.le_of_eq rfl) (hb hby d2_1) (fun _ _ => ⟨rfl, e0, (by decide : 0 + 0 ≤ _), (by decide : 0 + 0 ≤ _)⟩)
  dsimp only [Pt.U, Pt.locs, Pt.cells, Pt.slots] at X1 l1 y1 z1 st1 hQ1
  subst l1 y1 z1
  obtain ⟨rfl, Nq1, hs1⟩ := hQ1
  have N1 := Fr.app N0 Nq1
  refine Comes.go st1 ?_
  show Comes p e below _ (T1.setTop (mkF m 4 #[.val (.ref self)] []))
  refine Comes.st (fun t k => XS.aloadN X1.here hx rfl (hb hby d2_4) rfl rfl (XS.iconst X1.here hx rfl (hb hby d2_5) k)) ?_
  show Comes p e below _ (T1.setTop (mkF m 6 #[.val (.ref self)] [(.int (0 : Int32)), (.ref self)]))
  obtain ⟨T2, h2, X2, e2, W2, st2⟩ := putF X1 hx hZ hown (host := "") (Or.inl (hw _ (List.mem_of_getElem? (i := 26) rfl))) Via.refl hs1 G2 G0 (Or.inl (hw _ (List.mem_of_getElem? (i := 27) rfl))) (hw _ (List.mem_of_getElem? (i := 6) rfl)) (ty := .int) (by decide) rfl rfl (g := (mkF m 6 #[.val (.ref self)] [(.int (0 : Int32)), (.ref self)])) rfl rfl (hb hby d2_6)
  have Fw2 := G2.same W2
  have z2 : h2.size = h0.size := W2.size
  have gn3 : n0 ≤ self := by omega
  have N2 := Fr.snoc X2 N1 gn3
  have K2 : Keep h0 h2 [self] := K0.wr W2 (Or.inl (List.mem_of_getElem? (i := 0) rfl))
  refine Comes.st st2 ?_
  show Comes p e below _ (T2.setTop (mkF m 9 #[.val (.ref self)] []))
  have F4 : Exa Z h2 self "java/util/ArrayList" := (G0.wr W2)
  have F5 : Fld Z h2 self "java/util/ArrayList" "elementData" "[Ljava/lang/Object;" .null := (G1.other W2 (Or.inr (slot_ne (Or.inl (hw _ (List.mem_of_getElem? (i := 30) rfl))) (Or.inl (hw _ (List.mem_of_getElem? (i := 27) rfl))) (by decide) (t := (.array (.object "java/lang/Object"))) (t' := .int) (by decide) (by decide))))
  exact Comes.ret0 X2 hx Bd.returns hlk (hb hby d2_9) e2 ⟨rfl, N2, K2, F4, F5, Fw2⟩ (by decide) (by decide)
def Q_rm1 (Z : State) (self : Nat) (dc : Nat) (h0 : Heap) (n0 : Nat) (v : Option Value) (h : Heap) (L : List Loc) : Prop := (v = none) ∧ (Fr n0 L) ∧ (Keep h0 h [self]) ∧ (Exa Z h self "java/util/ArrayList")
set_option maxRecDepth 65536 in
set_option maxHeartbeats 40000000 in
theorem rm1 (l : Launch) (Z : State) (a0 : Array Value) (hw : ∀ d ∈ tables_1, d.before a0 Z = true) (ws : List Jvm.Cond) (self : Nat) (dc : Nat) (h0 : Heap) (n0 : Nat) (Z0 : n0 ≤ h0.size) (G0 : Exa Z h0 self "java/util/ArrayList") (G1 : Fld Z h0 self "java/util/ArrayList" "elementData" "[Ljava/lang/Object;" .null) (G2 : Fld Z h0 self "java/util/AbstractList" "modCount" "I" (.int (0 : Int32))) (G3 : n0 ≤ self) (G4 : Sta Z Z.heap "java/util/ArrayList" "DEFAULTCAPACITY_EMPTY_ELEMENTDATA" "[Ljava/lang/Object;" (.ref dc)) (G5 : Old Z n0 h0) :
    MetFree l (⟨"java/util/ArrayList", "<init>", "()V"⟩ : MethodName) (head1 (Jvm.Cond.code (⟨"java/util/ArrayList", "<init>", "()V"⟩ : MethodName) jdk_38_method_2_code 1 none :: ws) ({ frames := 3, cells := 0, slots := 0, locals := 36 } : Room)) (fun a U => a = #[(.ref self)] ∧ Z.Warmed39 U.vm ∧ U.heap = h0) (fun _ _ _ _ _ => True) (fun _ U o U' => ∃ v L, o = .returned v ∧ Q_rm1 Z self dc h0 n0 v U'.heap L ∧ FrameEnd U o U' L ({ frames := 3, cells := 0, slots := 0, locals := 36 } : Room).cells ({ frames := 3, cells := 0, slots := 0, locals := 36 } : Room).slots) := by
  refine MetFree.of_bodySF (plainFor_of_name pn_1) hisR ?_
  intro p e s m args below meth c s₁ Bd hml0 hP hK
  obtain ⟨rfl, hZ, hh⟩ := hP
  have hx := Bd.exec
  have hby := Bd.bytes
  have hml : c.maxLocals = 1 := hml0
  have hown : s.vm.findClass "java/util/ArrayList" = some m.cls := findClass_of_methodNamed Bd.named
  have hnm := (name_of_methodNamed Bd.named Bd.method).1
  have hlk : meth.locks = false := Bd.notSynchronized
  have X0 : Stand p l e ({ frames := 3, cells := 0, slots := 0, locals := 36 } : Room) s m #[(.ref self)] below meth c s₁ [] 0 0 := Stand.of_body Bd
  have e0 : s₁.heap = h0 := by rw [← hh, Bd.state]; rfl
  have N0 := Fr.nil n0
  have K0 := Keep.refl h0 [self]
  refine Comes.out (Q := Q_rm1 Z self dc h0 n0) (kc := ({ frames := 3, cells := 0, slots := 0, locals := 36 } : Room).cells) (ks := ({ frames := 3, cells := 0, slots := 0, locals := 36 } : Room).slots) ?_
  refine Comes.cast (ef_rm1 m self) ?_
  have lt_self : self < h0.size := G0.lt
  show Comes p e below _ (s₁.setTop (mkF m 0 #[.val (.ref self)] []))
  refine Comes.st (fun t k => XS.aloadN X0.here hx rfl (hb hby d1_0) rfl rfl k) ?_
  show Comes p e below _ (s₁.setTop (mkF m 1 #[.val (.ref self)] [(.ref self)]))
  obtain ⟨_, _, ⟨T1, L1, k1, n1⟩, -, X1, ⟨Lc1, hQ1, l1, y1, z1⟩, st1⟩ := X0.specialBack hx (y := (⟨"java/util/AbstractList", "<init>", "()V"⟩ : MethodName)) rfl hown (mvT hZ (hw _ (List.mem_of_getElem? (i := 11) rfl))) (mvT hZ (hw _ (List.mem_of_getElem? (i := 12) rfl))) (mvT hZ (hw _ (List.mem_of_getElem? (i := 16) rfl))) (by decide) (backOf (W := 0) (rm2 l Z a0 hw [] self h0 n0 (by omega)  G0 G1 G2 (by omega)) hZ (hw _ (List.mem_of_getElem? (i := 16) rfl)) (hw _ (List.mem_of_getElem? (i := 15) rfl)) (by decide) (by decide)) (g := (mkF m 1 #[.val (.ref self)] [(.ref self)])) rfl (by rw [hml]; rfl) (Steps.refl _) (a := self) (argsL := []) (rest := []) (lenOf pd_0 rfl) rfl (by show 2 * 0 + _ ≤ _; exact Nat.le_of_eq rfl) (hb hby d1_1) (fun _ _ => ⟨rfl, e0, (by decide : 0 + 0 ≤ _), (by decide : 0 + 0 ≤ _)⟩)
  dsimp only [Pt.U, Pt.locs, Pt.cells, Pt.slots] at X1 l1 y1 z1 st1 hQ1
  subst l1 y1 z1
  obtain ⟨rfl, Nq1, Kq1, P1_0, P1_1, P1_2⟩ := hQ1
  have N1 := Fr.app N0 Nq1
  have z1k : h0.size ≤ T1.heap.size := Kq1.1
  have K1 : Keep h0 T1.heap [self] := K0.trans Kq1 (allS (Or.inl (List.mem_of_getElem? (i := 0) rfl)) all0)
  refine Comes.go st1 ?_
  show Comes p e below _ (T1.setTop (mkF m 4 #[.val (.ref self)] []))
  refine Comes.st (fun t k => XS.aloadN X1.here hx rfl (hb hby d1_4) rfl rfl k) ?_
  show Comes p e below _ (T1.setTop (mkF m 5 #[.val (.ref self)] [(.ref self)]))
  have Od2 : Old Z n0 T1.heap := (G5.keep Kq1 (allS (by omega) all0))
  obtain ⟨T3, X3, e3, st3⟩ := getS2 X1 hx hZ hown (host := "") (Or.inl (hw _ (List.mem_of_getElem? (i := 28) rfl))) Via.refl rfl (G4.ext Od2.2) (g := (mkF m 5 #[.val (.ref self)] [(.ref self)])) rfl (hb hby d1_5)
  refine Comes.st st3 ?_
  show Comes p e below _ (T3.setTop (mkF m 8 #[.val (.ref self)] [(.ref dc), (.ref self)]))
  obtain ⟨T4, h4, X4, e4, W4, st4⟩ := putF X3 hx hZ hown (host := "") (Or.inl (hw _ (List.mem_of_getElem? (i := 29) rfl))) Via.refl e3 P1_1 P1_0 (Or.inl (hw _ (List.mem_of_getElem? (i := 30) rfl))) (hw _ (List.mem_of_getElem? (i := 6) rfl)) (ty := (.array (.object "java/lang/Object"))) (by decide) rfl rfl (g := (mkF m 8 #[.val (.ref self)] [(.ref dc), (.ref self)])) rfl rfl (hb hby d1_8)
  have Fw4 := P1_1.same W4
  have z4 : h4.size = T1.heap.size := W4.size
  have gn5 : n0 ≤ self := by omega
  have N4 := Fr.snoc X4 N1 gn5
  have K4 : Keep h0 h4 [self] := K1.wr W4 (Or.inl (List.mem_of_getElem? (i := 0) rfl))
  refine Comes.st st4 ?_
  show Comes p e below _ (T4.setTop (mkF m 11 #[.val (.ref self)] []))
  have F6 : Exa Z h4 self "java/util/ArrayList" := (P1_0.wr W4)
  exact Comes.ret0 X4 hx Bd.returns hlk (hb hby d1_11) e4 ⟨rfl, N4, K4, F6⟩ (by decide) (by decide)
def Q_rm5 (Z : State) (self : Nat) (fa : UInt64) (fb : UInt64) (h0 : Heap) (n0 : Nat) (v : Option Value) (h : Heap) (L : List Loc) : Prop := (v = none) ∧ (Fr n0 L) ∧ (Keep h0 h [self]) ∧ (Exa Z h self "com/example/evenring/evenring/LoadView$Mean") ∧ (Fld Z h self "com/example/evenring/evenring/LoadView$Mean" "load" "D" (.double fa)) ∧ (Fld Z h self "com/example/evenring/evenring/LoadView$Mean" "peers" "D" (.double fb))
set_option maxRecDepth 65536 in
set_option maxHeartbeats 40000000 in
theorem rm5 (l : Launch) (Z : State) (a0 : Array Value) (hw : ∀ d ∈ tables_1, d.before a0 Z = true) (ws : List Jvm.Cond) (self : Nat) (fa : UInt64) (fb : UInt64) (h0 : Heap) (n0 : Nat) (Z0 : n0 ≤ h0.size) (G0 : Exa Z h0 self "com/example/evenring/evenring/LoadView$Mean") (G1 : Fld Z h0 self "com/example/evenring/evenring/LoadView$Mean" "load" "D" (.double 0)) (G2 : Fld Z h0 self "com/example/evenring/evenring/LoadView$Mean" "peers" "D" (.double 0)) (G3 : n0 ≤ self) :
    MetFree l (⟨"com/example/evenring/evenring/LoadView$Mean", "<init>", "(DD)V"⟩ : MethodName) (head1 (Jvm.Cond.code (⟨"com/example/evenring/evenring/LoadView$Mean", "<init>", "(DD)V"⟩ : MethodName) prog_32_method_1_code 5 none :: ws) ({ frames := 2, cells := 0, slots := 0, locals := 24 } : Room)) (fun a U => a = #[(.ref self), (.double fa), (.double fb)] ∧ Z.Warmed39 U.vm ∧ U.heap = h0) (fun _ _ _ _ _ => True) (fun _ U o U' => ∃ v L, o = .returned v ∧ Q_rm5 Z self fa fb h0 n0 v U'.heap L ∧ FrameEnd U o U' L ({ frames := 2, cells := 0, slots := 0, locals := 24 } : Room).cells ({ frames := 2, cells := 0, slots := 0, locals := 24 } : Room).slots) := by
  refine MetFree.of_bodySF (plainFor_of_name pn_5) hisR ?_
  intro p e s m args below meth c s₁ Bd hml0 hP hK
  obtain ⟨rfl, hZ, hh⟩ := hP
  have hx := Bd.exec
  have hby := Bd.bytes
  have hml : c.maxLocals = 5 := hml0
  have hown : s.vm.findClass "com/example/evenring/evenring/LoadView$Mean" = some m.cls := findClass_of_methodNamed Bd.named
  have hnm := (name_of_methodNamed Bd.named Bd.method).1
  have hlk : meth.locks = false := Bd.notSynchronized
  have X0 : Stand p l e ({ frames := 2, cells := 0, slots := 0, locals := 24 } : Room) s m #[(.ref self), (.double fa), (.double fb)] below meth c s₁ [] 0 0 := Stand.of_body Bd
  have e0 : s₁.heap = h0 := by rw [← hh, Bd.state]; rfl
  have N0 := Fr.nil n0
  have K0 := Keep.refl h0 [self]
  refine Comes.out (Q := Q_rm5 Z self fa fb h0 n0) (kc := ({ frames := 2, cells := 0, slots := 0, locals := 24 } : Room).cells) (ks := ({ frames := 2, cells := 0, slots := 0, locals := 24 } : Room).slots) ?_
  refine Comes.cast (ef_rm5 m self fa fb) ?_
  have lt_self : self < h0.size := G0.lt
  show Comes p e below _ (s₁.setTop (mkF m 0 #[.val (.ref self), .val (.double fa), .second, .val (.double fb), .second] []))
  refine Comes.st (fun t k => XS.aloadN X0.here hx rfl (hb hby d5_0) rfl rfl k) ?_
  show Comes p e below _ (s₁.setTop (mkF m 1 #[.val (.ref self), .val (.double fa), .second, .val (.double fb), .second] [(.ref self)]))
  obtain ⟨_, _, ⟨T1, L1, k1, n1⟩, -, X1, ⟨Lc1, hQ1, l1, y1, z1⟩, st1⟩ := X0.specialBack hx (y := (⟨"java/lang/Record", "<init>", "()V"⟩ : MethodName)) rfl hown (mvT hZ (hw _ (List.mem_of_getElem? (i := 37) rfl))) (mvT hZ (hw _ (List.mem_of_getElem? (i := 38) rfl))) (mvT hZ (hw _ (List.mem_of_getElem? (i := 41) rfl))) (by decide) (backOf (W := 0) (rm6 l Z a0 hw [] self h0 n0 (by omega)  ) hZ (hw _ (List.mem_of_getElem? (i := 41) rfl)) (hw _ (List.mem_of_getElem? (i := 40) rfl)) (by decide) (by decide)) (g := (mkF m 1 #[.val (.ref self), .val (.double fa), .second, .val (.double fb), .second] [(.ref self)])) rfl (by rw [hml]; rfl) (Steps.refl _) (a := self) (argsL := []) (rest := []) (lenOf pd_0 rfl) rfl (by show 2 * 0 + _ ≤ _; exact Nat.le_of_eq rfl) (hb hby d5_1) (fun _ _ => ⟨rfl, e0, (by decide : 0 + 0 ≤ _), (by decide : 0 + 0 ≤ _)⟩)
  dsimp only [Pt.U, Pt.locs, Pt.cells, Pt.slots] at X1 l1 y1 z1 st1 hQ1
  subst l1 y1 z1
  obtain ⟨rfl, Nq1, hs1⟩ := hQ1
  have N1 := Fr.app N0 Nq1
  refine Comes.go st1 ?_
  show Comes p e below _ (T1.setTop (mkF m 4 #[.val (.ref self), .val (.double fa), .second, .val (.double fb), .second] []))
  refine Comes.st (fun t k => XS.aloadN X1.here hx rfl (hb hby d5_4) rfl rfl (XS.dloadN X1.here hx rfl (hb hby d5_5) rfl k)) ?_
  show Comes p e below _ (T1.setTop (mkF m 6 #[.val (.ref self), .val (.double fa), .second, .val (.double fb), .second] [(.double fa), (.ref self)]))
  obtain ⟨T2, h2, X2, e2, W2, st2⟩ := putF X1 hx hZ hown (host := "") (Or.inl (hw _ (List.mem_of_getElem? (i := 43) rfl))) Via.refl hs1 G1 G0 (Or.inr ⟨(hw _ (List.mem_of_getElem? (i := 44) rfl)), rfl, hnm⟩) (hw _ (List.mem_of_getElem? (i := 32) rfl)) (ty := .double) (by decide) rfl rfl (g := (mkF m 6 #[.val (.ref self), .val (.double fa), .second, .val (.double fb), .second] [(.double fa), (.ref self)])) rfl rfl (hb hby d5_6)
  have Fw2 := G1.same W2
  have z2 : h2.size = h0.size := W2.size
  have gn3 : n0 ≤ self := by omega
  have N2 := Fr.snoc X2 N1 gn3
  have K2 : Keep h0 h2 [self] := K0.wr W2 (Or.inl (List.mem_of_getElem? (i := 0) rfl))
  refine Comes.st st2 ?_
  show Comes p e below _ (T2.setTop (mkF m 9 #[.val (.ref self), .val (.double fa), .second, .val (.double fb), .second] []))
  refine Comes.st (fun t k => XS.aloadN X2.here hx rfl (hb hby d5_9) rfl rfl (XS.dloadN X2.here hx rfl (hb hby d5_10) rfl k)) ?_
  show Comes p e below _ (T2.setTop (mkF m 11 #[.val (.ref self), .val (.double fa), .second, .val (.double fb), .second] [(.double fb), (.ref self)]))
  have F4 : Exa Z h2 self "com/example/evenring/evenring/LoadView$Mean" := (G0.wr W2)
  have F5 : Fld Z h2 self "com/example/evenring/evenring/LoadView$Mean" "peers" "D" (.double 0) := (G2.other W2 (Or.inr (slot_ne (Or.inr (hw _ (List.mem_of_getElem? (i := 46) rfl))) (Or.inr (hw _ (List.mem_of_getElem? (i := 44) rfl))) (by decide) (t := .double) (t' := .double) (by decide) (by decide))))
  obtain ⟨T6, h6, X6, e6, W6, st6⟩ := putF X2 hx hZ hown (host := "") (Or.inl (hw _ (List.mem_of_getElem? (i := 45) rfl))) Via.refl e2 F5 F4 (Or.inr ⟨(hw _ (List.mem_of_getElem? (i := 46) rfl)), rfl, hnm⟩) (hw _ (List.mem_of_getElem? (i := 32) rfl)) (ty := .double) (by decide) rfl rfl (g := (mkF m 11 #[.val (.ref self), .val (.double fa), .second, .val (.double fb), .second] [(.double fb), (.ref self)])) rfl rfl (hb hby d5_11)
  have Fw6 := F5.same W6
  have z6 : h6.size = h2.size := W6.size
  have N6 := Fr.snoc X6 N2 gn3
  have K6 : Keep h0 h6 [self] := K2.wr W6 (Or.inl (List.mem_of_getElem? (i := 0) rfl))
  refine Comes.st st6 ?_
  show Comes p e below _ (T6.setTop (mkF m 14 #[.val (.ref self), .val (.double fa), .second, .val (.double fb), .second] []))
  have F7 : Exa Z h6 self "com/example/evenring/evenring/LoadView$Mean" := (F4.wr W6)
  have F8 : Fld Z h6 self "com/example/evenring/evenring/LoadView$Mean" "load" "D" (.double fa) := (Fw2.other W6 (Or.inr (slot_ne (Or.inr (hw _ (List.mem_of_getElem? (i := 44) rfl))) (Or.inr (hw _ (List.mem_of_getElem? (i := 46) rfl))) (by decide) (t := .double) (t' := .double) (by decide) (by decide))))
  exact Comes.ret0 X6 hx Bd.returns hlk (hb hby d5_14) e6 ⟨rfl, N6, K6, F7, F8, Fw6⟩ (by decide) (by decide)
def Q_rm7 (Z : State) (self : Nat) (ld : Int32) (su : Nat) (me : Nat) (h0 : Heap) (n0 : Nat) (v : Option Value) (h : Heap) (L : List Loc) : Prop := (v = none) ∧ (Fr n0 L) ∧ (Keep h0 h [self]) ∧ (Exa Z h self "com/example/evenring/evenring/LoadView") ∧ (Fld Z h self "com/example/evenring/evenring/LoadView" "load" "I" (.int ld)) ∧ (Fld Z h self "com/example/evenring/evenring/LoadView" "successors" "Ljava/util/List;" (.ref su)) ∧ (Fld Z h self "com/example/evenring/evenring/LoadView" "mean" "Lcom/example/evenring/evenring/LoadView$Mean;" (.ref me))
set_option maxRecDepth 65536 in
set_option maxHeartbeats 40000000 in
theorem rm7 (l : Launch) (Z : State) (a0 : Array Value) (hw : ∀ d ∈ tables_1, d.before a0 Z = true) (ws : List Jvm.Cond) (self : Nat) (ld : Int32) (su : Nat) (me : Nat) (h0 : Heap) (n0 : Nat) (Z0 : n0 ≤ h0.size) (G0 : Exa Z h0 self "com/example/evenring/evenring/LoadView") (G1 : Fld Z h0 self "com/example/evenring/evenring/LoadView" "load" "I" (.int (0 : Int32))) (G2 : Fld Z h0 self "com/example/evenring/evenring/LoadView" "successors" "Ljava/util/List;" .null) (G3 : Fld Z h0 self "com/example/evenring/evenring/LoadView" "mean" "Lcom/example/evenring/evenring/LoadView$Mean;" .null) (G4 : n0 ≤ self) :
    MetFree l (⟨"com/example/evenring/evenring/LoadView", "<init>", "(ILjava/util/List;Lcom/example/evenring/evenring/LoadView$Mean;)V"⟩ : MethodName) (head1 (Jvm.Cond.code (⟨"com/example/evenring/evenring/LoadView", "<init>", "(ILjava/util/List;Lcom/example/evenring/evenring/LoadView$Mean;)V"⟩ : MethodName) prog_31_method_1_code 4 none :: ws) ({ frames := 2, cells := 0, slots := 0, locals := 24 } : Room)) (fun a U => a = #[(.ref self), (.int ld), (.ref su), (.ref me)] ∧ Z.Warmed39 U.vm ∧ U.heap = h0) (fun _ _ _ _ _ => True) (fun _ U o U' => ∃ v L, o = .returned v ∧ Q_rm7 Z self ld su me h0 n0 v U'.heap L ∧ FrameEnd U o U' L ({ frames := 2, cells := 0, slots := 0, locals := 24 } : Room).cells ({ frames := 2, cells := 0, slots := 0, locals := 24 } : Room).slots) := by
  refine MetFree.of_bodySF (plainFor_of_name pn_7) hisR ?_
  intro p e s m args below meth c s₁ Bd hml0 hP hK
  obtain ⟨rfl, hZ, hh⟩ := hP
  have hx := Bd.exec
  have hby := Bd.bytes
  have hml : c.maxLocals = 4 := hml0
  have hown : s.vm.findClass "com/example/evenring/evenring/LoadView" = some m.cls := findClass_of_methodNamed Bd.named
  have hnm := (name_of_methodNamed Bd.named Bd.method).1
  have hlk : meth.locks = false := Bd.notSynchronized
  have X0 : Stand p l e ({ frames := 2, cells := 0, slots := 0, locals := 24 } : Room) s m #[(.ref self), (.int ld), (.ref su), (.ref me)] below meth c s₁ [] 0 0 := Stand.of_body Bd
  have e0 : s₁.heap = h0 := by rw [← hh, Bd.state]; rfl
  have N0 := Fr.nil n0
  have K0 := Keep.refl h0 [self]
  refine Comes.out (Q := Q_rm7 Z self ld su me h0 n0) (kc := ({ frames := 2, cells := 0, slots := 0, locals := 24 } : Room).cells) (ks := ({ frames := 2, cells := 0, slots := 0, locals := 24 } : Room).slots) ?_
  refine Comes.cast (ef_rm7 m self ld su me) ?_
  have lt_self : self < h0.size := G0.lt
  show Comes p e below _ (s₁.setTop (mkF m 0 #[.val (.ref self), .val (.int ld), .val (.ref su), .val (.ref me)] []))
  refine Comes.st (fun t k => XS.aloadN X0.here hx rfl (hb hby d7_0) rfl rfl k) ?_
  show Comes p e below _ (s₁.setTop (mkF m 1 #[.val (.ref self), .val (.int ld), .val (.ref su), .val (.ref me)] [(.ref self)]))
  obtain ⟨_, _, ⟨T1, L1, k1, n1⟩, -, X1, ⟨Lc1, hQ1, l1, y1, z1⟩, st1⟩ := X0.specialBack hx (y := (⟨"java/lang/Record", "<init>", "()V"⟩ : MethodName)) rfl hown (mvT hZ (hw _ (List.mem_of_getElem? (i := 50) rfl))) (mvT hZ (hw _ (List.mem_of_getElem? (i := 38) rfl))) (mvT hZ (hw _ (List.mem_of_getElem? (i := 41) rfl))) (by decide) (backOf (W := 0) (rm6 l Z a0 hw [] self h0 n0 (by omega)  ) hZ (hw _ (List.mem_of_getElem? (i := 41) rfl)) (hw _ (List.mem_of_getElem? (i := 40) rfl)) (by decide) (by decide)) (g := (mkF m 1 #[.val (.ref self), .val (.int ld), .val (.ref su), .val (.ref me)] [(.ref self)])) rfl (by rw [hml]; rfl) (Steps.refl _) (a := self) (argsL := []) (rest := []) (lenOf pd_0 rfl) rfl (by show 2 * 0 + _ ≤ _; exact Nat.le_of_eq rfl) (hb hby d7_1) (fun _ _ => ⟨rfl, e0, (by decide : 0 + 0 ≤ _), (by decide : 0 + 0 ≤ _)⟩)
  dsimp only [Pt.U, Pt.locs, Pt.cells, Pt.slots] at X1 l1 y1 z1 st1 hQ1
  subst l1 y1 z1
  obtain ⟨rfl, Nq1, hs1⟩ := hQ1
  have N1 := Fr.app N0 Nq1
  refine Comes.go st1 ?_
  show Comes p e below _ (T1.setTop (mkF m 4 #[.val (.ref self), .val (.int ld), .val (.ref su), .val (.ref me)] []))
  refine Comes.st (fun t k => XS.aloadN X1.here hx rfl (hb hby d7_4) rfl rfl (XS.iloadN X1.here hx rfl (hb hby d7_5) rfl k)) ?_
  show Comes p e below _ (T1.setTop (mkF m 6 #[.val (.ref self), .val (.int ld), .val (.ref su), .val (.ref me)] [(.int ld), (.ref self)]))
  obtain ⟨T2, h2, X2, e2, W2, st2⟩ := putF X1 hx hZ hown (host := "") (Or.inl (hw _ (List.mem_of_getElem? (i := 51) rfl))) Via.refl hs1 G1 G0 (Or.inr ⟨(hw _ (List.mem_of_getElem? (i := 52) rfl)), rfl, hnm⟩) (hw _ (List.mem_of_getElem? (i := 3) rfl)) (ty := .int) (by decide) rfl rfl (g := (mkF m 6 #[.val (.ref self), .val (.int ld), .val (.ref su), .val (.ref me)] [(.int ld), (.ref self)])) rfl rfl (hb hby d7_6)
  have Fw2 := G1.same W2
  have z2 : h2.size = h0.size := W2.size
  have gn3 : n0 ≤ self := by omega
  have N2 := Fr.snoc X2 N1 gn3
  have K2 : Keep h0 h2 [self] := K0.wr W2 (Or.inl (List.mem_of_getElem? (i := 0) rfl))
  refine Comes.st st2 ?_
  show Comes p e below _ (T2.setTop (mkF m 9 #[.val (.ref self), .val (.int ld), .val (.ref su), .val (.ref me)] []))
  refine Comes.st (fun t k => XS.aloadN X2.here hx rfl (hb hby d7_9) rfl rfl (XS.aloadN X2.here hx rfl (hb hby d7_10) rfl rfl k)) ?_
  show Comes p e below _ (T2.setTop (mkF m 11 #[.val (.ref self), .val (.int ld), .val (.ref su), .val (.ref me)] [(.ref su), (.ref self)]))
  have F4 : Exa Z h2 self "com/example/evenring/evenring/LoadView" := (G0.wr W2)
  have F5 : Fld Z h2 self "com/example/evenring/evenring/LoadView" "successors" "Ljava/util/List;" .null := (G2.other W2 (Or.inr (slot_ne (Or.inr (hw _ (List.mem_of_getElem? (i := 54) rfl))) (Or.inr (hw _ (List.mem_of_getElem? (i := 52) rfl))) (by decide) (t := (.object "java/util/List")) (t' := .int) (by decide) (by decide))))
  obtain ⟨T6, h6, X6, e6, W6, st6⟩ := putF X2 hx hZ hown (host := "") (Or.inl (hw _ (List.mem_of_getElem? (i := 53) rfl))) Via.refl e2 F5 F4 (Or.inr ⟨(hw _ (List.mem_of_getElem? (i := 54) rfl)), rfl, hnm⟩) (hw _ (List.mem_of_getElem? (i := 3) rfl)) (ty := (.object "java/util/List")) (by decide) rfl rfl (g := (mkF m 11 #[.val (.ref self), .val (.int ld), .val (.ref su), .val (.ref me)] [(.ref su), (.ref self)])) rfl rfl (hb hby d7_11)
  have Fw6 := F5.same W6
  have z6 : h6.size = h2.size := W6.size
  have N6 := Fr.snoc X6 N2 gn3
  have K6 : Keep h0 h6 [self] := K2.wr W6 (Or.inl (List.mem_of_getElem? (i := 0) rfl))
  refine Comes.st st6 ?_
  show Comes p e below _ (T6.setTop (mkF m 14 #[.val (.ref self), .val (.int ld), .val (.ref su), .val (.ref me)] []))
  refine Comes.st (fun t k => XS.aloadN X6.here hx rfl (hb hby d7_14) rfl rfl (XS.aloadN X6.here hx rfl (hb hby d7_15) rfl rfl k)) ?_
  show Comes p e below _ (T6.setTop (mkF m 16 #[.val (.ref self), .val (.int ld), .val (.ref su), .val (.ref me)] [(.ref me), (.ref self)]))
  have F7 : Exa Z h6 self "com/example/evenring/evenring/LoadView" := (F4.wr W6)
  have F8 : Fld Z h6 self "com/example/evenring/evenring/LoadView" "mean" "Lcom/example/evenring/evenring/LoadView$Mean;" .null := ((G3.other W2 (Or.inr (slot_ne (Or.inr (hw _ (List.mem_of_getElem? (i := 56) rfl))) (Or.inr (hw _ (List.mem_of_getElem? (i := 52) rfl))) (by decide) (t := (.object "com/example/evenring/evenring/LoadView$Mean")) (t' := .int) (by decide) (by decide)))).other W6 (Or.inr (slot_ne (Or.inr (hw _ (List.mem_of_getElem? (i := 56) rfl))) (Or.inr (hw _ (List.mem_of_getElem? (i := 54) rfl))) (by decide) (t := (.object "com/example/evenring/evenring/LoadView$Mean")) (t' := (.object "java/util/List")) (by decide) (by decide))))
  obtain ⟨T9, h9, X9, e9, W9, st9⟩ := putF X6 hx hZ hown (host := "") (Or.inl (hw _ (List.mem_of_getElem? (i := 55) rfl))) Via.refl e6 F8 F7 (Or.inr ⟨(hw _ (List.mem_of_getElem? (i := 56) rfl)), rfl, hnm⟩) (hw _ (List.mem_of_getElem? (i := 3) rfl)) (ty := (.object "com/example/evenring/evenring/LoadView$Mean")) (by decide) rfl rfl (g := (mkF m 16 #[.val (.ref self), .val (.int ld), .val (.ref su), .val (.ref me)] [(.ref me), (.ref self)])) rfl rfl (hb hby d7_16)
  have Fw9 := F8.same W9
  have z9 : h9.size = h6.size := W9.size
  have N9 := Fr.snoc X9 N6 gn3
  have K9 : Keep h0 h9 [self] := K6.wr W9 (Or.inl (List.mem_of_getElem? (i := 0) rfl))
  refine Comes.st st9 ?_
  show Comes p e below _ (T9.setTop (mkF m 19 #[.val (.ref self), .val (.int ld), .val (.ref su), .val (.ref me)] []))
  have F10 : Exa Z h9 self "com/example/evenring/evenring/LoadView" := (F7.wr W9)
  have F11 : Fld Z h9 self "com/example/evenring/evenring/LoadView" "load" "I" (.int ld) := ((Fw2.other W6 (Or.inr (slot_ne (Or.inr (hw _ (List.mem_of_getElem? (i := 52) rfl))) (Or.inr (hw _ (List.mem_of_getElem? (i := 54) rfl))) (by decide) (t := .int) (t' := (.object "java/util/List")) (by decide) (by decide)))).other W9 (Or.inr (slot_ne (Or.inr (hw _ (List.mem_of_getElem? (i := 52) rfl))) (Or.inr (hw _ (List.mem_of_getElem? (i := 56) rfl))) (by decide) (t := .int) (t' := (.object "com/example/evenring/evenring/LoadView$Mean")) (by decide) (by decide))))
  have F12 : Fld Z h9 self "com/example/evenring/evenring/LoadView" "successors" "Ljava/util/List;" (.ref su) := (Fw6.other W9 (Or.inr (slot_ne (Or.inr (hw _ (List.mem_of_getElem? (i := 54) rfl))) (Or.inr (hw _ (List.mem_of_getElem? (i := 56) rfl))) (by decide) (t := (.object "java/util/List")) (t' := (.object "com/example/evenring/evenring/LoadView$Mean")) (by decide) (by decide))))
  exact Comes.ret0 X9 hx Bd.returns hlk (hb hby d7_19) e9 ⟨rfl, N9, K9, F10, F11, F12, Fw9⟩ (by decide) (by decide)
def Q_rm11 (Z : State) (self : Nat) (ld : Int32) (h0 : Heap) (n0 : Nat) (v : Option Value) (h : Heap) (L : List Loc) : Prop := (v = some (.int ld)) ∧ (Fr n0 L) ∧ (h = h0)
set_option maxRecDepth 65536 in
set_option maxHeartbeats 40000000 in
theorem rm11 (l : Launch) (Z : State) (a0 : Array Value) (hw : ∀ d ∈ tables_1, d.before a0 Z = true) (ws : List Jvm.Cond) (self : Nat) (ld : Int32) (h0 : Heap) (n0 : Nat) (Z0 : n0 ≤ h0.size) (G0 : Fld Z h0 self "com/example/evenring/evenring/LoadView" "load" "I" (.int ld)) :
    MetFree l (⟨"com/example/evenring/evenring/LoadView", "load", "()I"⟩ : MethodName) (head1 (Jvm.Cond.code (⟨"com/example/evenring/evenring/LoadView", "load", "()I"⟩ : MethodName) prog_31_method_7_code 1 (some .int) :: ws) ({ frames := 0, cells := 0, slots := 0, locals := 0 } : Room)) (fun a U => a = #[(.ref self)] ∧ Z.Warmed39 U.vm ∧ U.heap = h0) (fun _ _ _ _ _ => True) (fun _ U o U' => ∃ v L, o = .returned v ∧ Q_rm11 Z self ld h0 n0 v U'.heap L ∧ FrameEnd U o U' L ({ frames := 0, cells := 0, slots := 0, locals := 0 } : Room).cells ({ frames := 0, cells := 0, slots := 0, locals := 0 } : Room).slots) := by
  refine MetFree.of_bodySF (plainFor_of_name pn_11) hisR ?_
  intro p e s m args below meth c s₁ Bd hml0 hP hK
  obtain ⟨rfl, hZ, hh⟩ := hP
  have hx := Bd.exec
  have hby := Bd.bytes
  have hml : c.maxLocals = 1 := hml0
  have hown : s.vm.findClass "com/example/evenring/evenring/LoadView" = some m.cls := findClass_of_methodNamed Bd.named
  have hnm := (name_of_methodNamed Bd.named Bd.method).1
  have hlk : meth.locks = false := Bd.notSynchronized
  have X0 : Stand p l e ({ frames := 0, cells := 0, slots := 0, locals := 0 } : Room) s m #[(.ref self)] below meth c s₁ [] 0 0 := Stand.of_body Bd
  have e0 : s₁.heap = h0 := by rw [← hh, Bd.state]; rfl
  have N0 := Fr.nil n0
  refine Comes.out (Q := Q_rm11 Z self ld h0 n0) (kc := ({ frames := 0, cells := 0, slots := 0, locals := 0 } : Room).cells) (ks := ({ frames := 0, cells := 0, slots := 0, locals := 0 } : Room).slots) ?_
  refine Comes.cast (ef_rm11 m self) ?_
  have lt_self : self < h0.size := G0.lt
  show Comes p e below _ (s₁.setTop (mkF m 0 #[.val (.ref self)] []))
  refine Comes.st (fun t k => XS.aloadN X0.here hx rfl (hb hby d11_0) rfl rfl k) ?_
  show Comes p e below _ (s₁.setTop (mkF m 1 #[.val (.ref self)] [(.ref self)]))
  obtain ⟨T1, X1, e1, st1⟩ := getF X0 hx hZ hown (host := "") (Or.inl (hw _ (List.mem_of_getElem? (i := 51) rfl))) Via.refl e0 G0 (g := (mkF m 1 #[.val (.ref self)] [(.ref self)])) rfl rfl (hb hby d11_1)
  refine Comes.st st1 ?_
  show Comes p e below _ (T1.setTop (mkF m 4 #[.val (.ref self)] [(.int ld)]))
  exact Comes.retV X1 hx Bd.returns rfl (Or.inl ⟨rfl, Or.inl rfl, _, rfl⟩) hlk (hb hby d11_4) e1 ⟨rfl, N0, rfl⟩ (by decide) (by decide)
def Q_rm10 (Z : State) (self : Nat) (me : Nat) (h0 : Heap) (n0 : Nat) (v : Option Value) (h : Heap) (L : List Loc) : Prop := (v = some (.ref me)) ∧ (Fr n0 L) ∧ (h = h0)
set_option maxRecDepth 65536 in
set_option maxHeartbeats 40000000 in
theorem rm10 (l : Launch) (Z : State) (a0 : Array Value) (hw : ∀ d ∈ tables_1, d.before a0 Z = true) (ws : List Jvm.Cond) (self : Nat) (me : Nat) (h0 : Heap) (n0 : Nat) (Z0 : n0 ≤ h0.size) (G0 : Fld Z h0 self "com/example/evenring/evenring/LoadView" "mean" "Lcom/example/evenring/evenring/LoadView$Mean;" (.ref me)) :
    MetFree l (⟨"com/example/evenring/evenring/LoadView", "mean", "()Lcom/example/evenring/evenring/LoadView$Mean;"⟩ : MethodName) (head1 (Jvm.Cond.code (⟨"com/example/evenring/evenring/LoadView", "mean", "()Lcom/example/evenring/evenring/LoadView$Mean;"⟩ : MethodName) prog_31_method_9_code 1 (some (.object "com/example/evenring/evenring/LoadView$Mean")) :: ws) ({ frames := 0, cells := 0, slots := 0, locals := 0 } : Room)) (fun a U => a = #[(.ref self)] ∧ Z.Warmed39 U.vm ∧ U.heap = h0) (fun _ _ _ _ _ => True) (fun _ U o U' => ∃ v L, o = .returned v ∧ Q_rm10 Z self me h0 n0 v U'.heap L ∧ FrameEnd U o U' L ({ frames := 0, cells := 0, slots := 0, locals := 0 } : Room).cells ({ frames := 0, cells := 0, slots := 0, locals := 0 } : Room).slots) := by
  refine MetFree.of_bodySF (plainFor_of_name pn_10) hisR ?_
  intro p e s m args below meth c s₁ Bd hml0 hP hK
  obtain ⟨rfl, hZ, hh⟩ := hP
  have hx := Bd.exec
  have hby := Bd.bytes
  have hml : c.maxLocals = 1 := hml0
  have hown : s.vm.findClass "com/example/evenring/evenring/LoadView" = some m.cls := findClass_of_methodNamed Bd.named
  have hnm := (name_of_methodNamed Bd.named Bd.method).1
  have hlk : meth.locks = false := Bd.notSynchronized
  have X0 : Stand p l e ({ frames := 0, cells := 0, slots := 0, locals := 0 } : Room) s m #[(.ref self)] below meth c s₁ [] 0 0 := Stand.of_body Bd
  have e0 : s₁.heap = h0 := by rw [← hh, Bd.state]; rfl
  have N0 := Fr.nil n0
  refine Comes.out (Q := Q_rm10 Z self me h0 n0) (kc := ({ frames := 0, cells := 0, slots := 0, locals := 0 } : Room).cells) (ks := ({ frames := 0, cells := 0, slots := 0, locals := 0 } : Room).slots) ?_
  refine Comes.cast (ef_rm10 m self) ?_
  have lt_self : self < h0.size := G0.lt
  show Comes p e below _ (s₁.setTop (mkF m 0 #[.val (.ref self)] []))
  refine Comes.st (fun t k => XS.aloadN X0.here hx rfl (hb hby d10_0) rfl rfl k) ?_
  show Comes p e below _ (s₁.setTop (mkF m 1 #[.val (.ref self)] [(.ref self)]))
  obtain ⟨T1, X1, e1, st1⟩ := getF X0 hx hZ hown (host := "") (Or.inl (hw _ (List.mem_of_getElem? (i := 55) rfl))) Via.refl e0 G0 (g := (mkF m 1 #[.val (.ref self)] [(.ref self)])) rfl rfl (hb hby d10_1)
  refine Comes.st st1 ?_
  show Comes p e below _ (T1.setTop (mkF m 4 #[.val (.ref self)] [(.ref me)]))
  exact Comes.retV X1 hx Bd.returns (narrow_ref rfl) (Or.inr (Or.inr (Or.inr (Or.inr ⟨rfl, rfl, rfl⟩)))) hlk (hb hby d10_4) e1 ⟨rfl, N0, rfl⟩ (by decide) (by decide)
def Q_rm12 (Z : State) (self : Nat) (fp : UInt64) (h0 : Heap) (n0 : Nat) (v : Option Value) (h : Heap) (L : List Loc) : Prop := (v = some (.double fp)) ∧ (Fr n0 L) ∧ (h = h0)
set_option maxRecDepth 65536 in
set_option maxHeartbeats 40000000 in
theorem rm12 (l : Launch) (Z : State) (a0 : Array Value) (hw : ∀ d ∈ tables_1, d.before a0 Z = true) (ws : List Jvm.Cond) (self : Nat) (fp : UInt64) (h0 : Heap) (n0 : Nat) (Z0 : n0 ≤ h0.size) (G0 : Fld Z h0 self "com/example/evenring/evenring/LoadView$Mean" "peers" "D" (.double fp)) :
    MetFree l (⟨"com/example/evenring/evenring/LoadView$Mean", "peers", "()D"⟩ : MethodName) (head1 (Jvm.Cond.code (⟨"com/example/evenring/evenring/LoadView$Mean", "peers", "()D"⟩ : MethodName) prog_32_method_6_code 1 (some .double) :: ws) ({ frames := 0, cells := 0, slots := 0, locals := 0 } : Room)) (fun a U => a = #[(.ref self)] ∧ Z.Warmed39 U.vm ∧ U.heap = h0) (fun _ _ _ _ _ => True) (fun _ U o U' => ∃ v L, o = .returned v ∧ Q_rm12 Z self fp h0 n0 v U'.heap L ∧ FrameEnd U o U' L ({ frames := 0, cells := 0, slots := 0, locals := 0 } : Room).cells ({ frames := 0, cells := 0, slots := 0, locals := 0 } : Room).slots) := by
  refine MetFree.of_bodySF (plainFor_of_name pn_12) hisR ?_
  intro p e s m args below meth c s₁ Bd hml0 hP hK
  obtain ⟨rfl, hZ, hh⟩ := hP
  have hx := Bd.exec
  have hby := Bd.bytes
  have hml : c.maxLocals = 1 := hml0
  have hown : s.vm.findClass "com/example/evenring/evenring/LoadView$Mean" = some m.cls := findClass_of_methodNamed Bd.named
  have hnm := (name_of_methodNamed Bd.named Bd.method).1
  have hlk : meth.locks = false := Bd.notSynchronized
  have X0 : Stand p l e ({ frames := 0, cells := 0, slots := 0, locals := 0 } : Room) s m #[(.ref self)] below meth c s₁ [] 0 0 := Stand.of_body Bd
  have e0 : s₁.heap = h0 := by rw [← hh, Bd.state]; rfl
  have N0 := Fr.nil n0
  refine Comes.out (Q := Q_rm12 Z self fp h0 n0) (kc := ({ frames := 0, cells := 0, slots := 0, locals := 0 } : Room).cells) (ks := ({ frames := 0, cells := 0, slots := 0, locals := 0 } : Room).slots) ?_
  refine Comes.cast (ef_rm12 m self) ?_
  have lt_self : self < h0.size := G0.lt
  show Comes p e below _ (s₁.setTop (mkF m 0 #[.val (.ref self)] []))
  refine Comes.st (fun t k => XS.aloadN X0.here hx rfl (hb hby d12_0) rfl rfl k) ?_
  show Comes p e below _ (s₁.setTop (mkF m 1 #[.val (.ref self)] [(.ref self)]))
  obtain ⟨T1, X1, e1, st1⟩ := getF X0 hx hZ hown (host := "") (Or.inl (hw _ (List.mem_of_getElem? (i := 45) rfl))) Via.refl e0 G0 (g := (mkF m 1 #[.val (.ref self)] [(.ref self)])) rfl rfl (hb hby d12_1)
  refine Comes.st st1 ?_
  show Comes p e below _ (T1.setTop (mkF m 4 #[.val (.ref self)] [(.double fp)]))
  exact Comes.retV X1 hx Bd.returns rfl (Or.inr (Or.inr (Or.inl ⟨rfl, rfl, _, rfl⟩))) hlk (hb hby d12_4) e1 ⟨rfl, N0, rfl⟩ (by decide) (by decide)
def Q_rm13 (Z : State) (self : Nat) (fl : UInt64) (h0 : Heap) (n0 : Nat) (v : Option Value) (h : Heap) (L : List Loc) : Prop := (v = some (.double fl)) ∧ (Fr n0 L) ∧ (h = h0)
set_option maxRecDepth 65536 in
set_option maxHeartbeats 40000000 in
theorem rm13 (l : Launch) (Z : State) (a0 : Array Value) (hw : ∀ d ∈ tables_1, d.before a0 Z = true) (ws : List Jvm.Cond) (self : Nat) (fl : UInt64) (h0 : Heap) (n0 : Nat) (Z0 : n0 ≤ h0.size) (G0 : Fld Z h0 self "com/example/evenring/evenring/LoadView$Mean" "load" "D" (.double fl)) :
    MetFree l (⟨"com/example/evenring/evenring/LoadView$Mean", "load", "()D"⟩ : MethodName) (head1 (Jvm.Cond.code (⟨"com/example/evenring/evenring/LoadView$Mean", "load", "()D"⟩ : MethodName) prog_32_method_5_code 1 (some .double) :: ws) ({ frames := 0, cells := 0, slots := 0, locals := 0 } : Room)) (fun a U => a = #[(.ref self)] ∧ Z.Warmed39 U.vm ∧ U.heap = h0) (fun _ _ _ _ _ => True) (fun _ U o U' => ∃ v L, o = .returned v ∧ Q_rm13 Z self fl h0 n0 v U'.heap L ∧ FrameEnd U o U' L ({ frames := 0, cells := 0, slots := 0, locals := 0 } : Room).cells ({ frames := 0, cells := 0, slots := 0, locals := 0 } : Room).slots) := by
  refine MetFree.of_bodySF (plainFor_of_name pn_13) hisR ?_
  intro p e s m args below meth c s₁ Bd hml0 hP hK
  obtain ⟨rfl, hZ, hh⟩ := hP
  have hx := Bd.exec
  have hby := Bd.bytes
  have hml : c.maxLocals = 1 := hml0
  have hown : s.vm.findClass "com/example/evenring/evenring/LoadView$Mean" = some m.cls := findClass_of_methodNamed Bd.named
  have hnm := (name_of_methodNamed Bd.named Bd.method).1
  have hlk : meth.locks = false := Bd.notSynchronized
  have X0 : Stand p l e ({ frames := 0, cells := 0, slots := 0, locals := 0 } : Room) s m #[(.ref self)] below meth c s₁ [] 0 0 := Stand.of_body Bd
  have e0 : s₁.heap = h0 := by rw [← hh, Bd.state]; rfl
  have N0 := Fr.nil n0
  refine Comes.out (Q := Q_rm13 Z self fl h0 n0) (kc := ({ frames := 0, cells := 0, slots := 0, locals := 0 } : Room).cells) (ks := ({ frames := 0, cells := 0, slots := 0, locals := 0 } : Room).slots) ?_
  refine Comes.cast (ef_rm13 m self) ?_
  have lt_self : self < h0.size := G0.lt
  show Comes p e below _ (s₁.setTop (mkF m 0 #[.val (.ref self)] []))
  refine Comes.st (fun t k => XS.aloadN X0.here hx rfl (hb hby d13_0) rfl rfl k) ?_
  show Comes p e below _ (s₁.setTop (mkF m 1 #[.val (.ref self)] [(.ref self)]))
  obtain ⟨T1, X1, e1, st1⟩ := getF X0 hx hZ hown (host := "") (Or.inl (hw _ (List.mem_of_getElem? (i := 43) rfl))) Via.refl e0 G0 (g := (mkF m 1 #[.val (.ref self)] [(.ref self)])) rfl rfl (hb hby d13_1)
  refine Comes.st st1 ?_
  show Comes p e below _ (T1.setTop (mkF m 4 #[.val (.ref self)] [(.double fl)]))
  exact Comes.retV X1 hx Bd.returns rfl (Or.inr (Or.inr (Or.inl ⟨rfl, rfl, _, rfl⟩))) hlk (hb hby d13_4) e1 ⟨rfl, N0, rfl⟩ (by decide) (by decide)
def Q_rm9 (Z : State) (self : Nat) (vw : Nat) (fc : Int32) (ld : Int32) (me : Nat) (fp : UInt64) (fl : UInt64) (h0 : Heap) (n0 : Nat) (v : Option Value) (h : Heap) (L : List Loc) : Prop := ∃ (r : Int32), (v = some (.int r)) ∧ (Fr n0 L) ∧ (h = h0) ∧ (((0 : Int32) < (Jvm.Op.cmpValue (FP.dcmp (FP.dmul (FP.i2d ld) fp) (FP.dmul (FP.i2d fc) fl)) .l) ∧ r = (1 : Int32)) ∨ (¬ ((0 : Int32) < (Jvm.Op.cmpValue (FP.dcmp (FP.dmul (FP.i2d ld) fp) (FP.dmul (FP.i2d fc) fl)) .l)) ∧ r = (0 : Int32)))
set_option maxRecDepth 65536 in
set_option maxHeartbeats 40000000 in
theorem rm9 (l : Launch) (Z : State) (a0 : Array Value) (hw : ∀ d ∈ tables_1, d.before a0 Z = true) (ws : List Jvm.Cond) (self : Nat) (vw : Nat) (fc : Int32) (ld : Int32) (me : Nat) (fp : UInt64) (fl : UInt64) (h0 : Heap) (n0 : Nat) (Z0 : n0 ≤ h0.size) (G0 : Fld Z h0 self "com/example/evenring/evenring/LoadState$Overall" "factor" "I" (.int fc)) (G1 : Exa Z h0 vw "com/example/evenring/evenring/LoadView") (G2 : Fld Z h0 vw "com/example/evenring/evenring/LoadView" "load" "I" (.int ld)) (G3 : Fld Z h0 vw "com/example/evenring/evenring/LoadView" "mean" "Lcom/example/evenring/evenring/LoadView$Mean;" (.ref me)) (G4 : Exa Z h0 me "com/example/evenring/evenring/LoadView$Mean") (G5 : Fld Z h0 me "com/example/evenring/evenring/LoadView$Mean" "peers" "D" (.double fp)) (G6 : Fld Z h0 me "com/example/evenring/evenring/LoadView$Mean" "load" "D" (.double fl)) (G7 : Jvm.Free.Fl.NoNaN64 (FP.dmul (FP.i2d ld) fp)) (G8 : Jvm.Free.Fl.NoNaN64 (FP.dmul (FP.i2d fc) fl)) :
    MetFree l (⟨"com/example/evenring/evenring/LoadState$Overall", "isOverloaded", "(Lcom/example/evenring/evenring/LoadView;)Z"⟩ : MethodName) (head1 (Jvm.Cond.code (⟨"com/example/evenring/evenring/LoadState$Overall", "isOverloaded", "(Lcom/example/evenring/evenring/LoadView;)Z"⟩ : MethodName) prog_29_method_3_code 3 (some .boolean) :: ws) ({ frames := 1, cells := 0, slots := 0, locals := 16 } : Room)) (fun a U => a = #[(.ref self), (.ref vw)] ∧ Z.Warmed39 U.vm ∧ U.heap = h0) (fun _ _ _ _ _ => True) (fun _ U o U' => ∃ v L, o = .returned v ∧ Q_rm9 Z self vw fc ld me fp fl h0 n0 v U'.heap L ∧ FrameEnd U o U' L ({ frames := 1, cells := 0, slots := 0, locals := 16 } : Room).cells ({ frames := 1, cells := 0, slots := 0, locals := 16 } : Room).slots) := by
  refine MetFree.of_bodySF (plainFor_of_name pn_9) hisR ?_
  intro p e s m args below meth c s₁ Bd hml0 hP hK
  obtain ⟨rfl, hZ, hh⟩ := hP
  have hx := Bd.exec
  have hby := Bd.bytes
  have hml : c.maxLocals = 3 := hml0
  have hown : s.vm.findClass "com/example/evenring/evenring/LoadState$Overall" = some m.cls := findClass_of_methodNamed Bd.named
  have hnm := (name_of_methodNamed Bd.named Bd.method).1
  have hlk : meth.locks = false := Bd.notSynchronized
  have X0 : Stand p l e ({ frames := 1, cells := 0, slots := 0, locals := 16 } : Room) s m #[(.ref self), (.ref vw)] below meth c s₁ [] 0 0 := Stand.of_body Bd
  have e0 : s₁.heap = h0 := by rw [← hh, Bd.state]; rfl
  have N0 := Fr.nil n0
  refine Comes.out (Q := Q_rm9 Z self vw fc ld me fp fl h0 n0) (kc := ({ frames := 1, cells := 0, slots := 0, locals := 16 } : Room).cells) (ks := ({ frames := 1, cells := 0, slots := 0, locals := 16 } : Room).slots) ?_
  refine Comes.cast (ef_rm9 m self vw) ?_
  have lt_self : self < h0.size := G0.lt
  have lt_vw : vw < h0.size := G1.lt
  have lt_me : me < h0.size := G4.lt
  show Comes p e below _ (s₁.setTop (mkF m 0 #[.val (.ref self), .val (.ref vw), .unset] []))
  refine Comes.st (fun t k => XS.aloadN X0.here hx rfl (hb hby d9_0) rfl rfl k) ?_
  show Comes p e below _ (s₁.setTop (mkF m 1 #[.val (.ref self), .val (.ref vw), .unset] [(.ref vw)]))
  obtain ⟨cq1, kq1, q1a, q1b, q1c⟩ := isOf hZ e0 G1
  obtain ⟨_, _, ⟨T1, L1, k1, n1⟩, -, X1, ⟨Lc1, hQ1, l1, y1, z1⟩, st1⟩ := X0.virtualBack hx (y := (⟨"com/example/evenring/evenring/LoadView", "mean", "()Lcom/example/evenring/evenring/LoadView$Mean;"⟩ : MethodName)) (z := (⟨"com/example/evenring/evenring/LoadView", "mean", "()Lcom/example/evenring/evenring/LoadView$Mean;"⟩ : MethodName)) hown (mvT hZ (hw _ (List.mem_of_getElem? (i := 71) rfl))) (mvT hZ (hw _ (List.mem_of_getElem? (i := 72) rfl))) (notFace_of_selects (args := #[]) (mvT hZ (hw _ (List.mem_of_getElem? (i := 74) rfl)))) (mvT hZ (hw _ (List.mem_of_getElem? (i := 74) rfl))) (mvT hZ (hw _ (List.mem_of_getElem? (i := 73) rfl))) (by decide) (backOf (W := 0) (rm10 l Z a0 hw [] vw me h0 n0 (by omega)  G3) hZ (hw _ (List.mem_of_getElem? (i := 75) rfl)) (hw _ (List.mem_of_getElem? (i := 4) rfl)) (by decide) (by decide)) q1a q1c (g := (mkF m 1 #[.val (.ref self), .val (.ref vw), .unset] [(.ref vw)])) rfl (by rw [hml]; rfl) (Steps.refl _) (argsL := []) (rest := []) (lenOf pd_1 rfl) rfl (by show 2 * 0 + _ ≤ _; exact Nat.le_of_eq rfl) (hb hby d9_1) (fun _ _ => ⟨rfl, e0, (by decide : 0 + 0 ≤ _), (by decide : 0 + 0 ≤ _)⟩)
  dsimp only [Pt.U, Pt.locs, Pt.cells, Pt.slots] at X1 l1 y1 z1 st1 hQ1
  subst l1 y1 z1
  obtain ⟨rfl, Nq1, hs1⟩ := hQ1
  have N1 := Fr.app N0 Nq1
  refine Comes.go st1 ?_
  show Comes p e below _ (T1.setTop (mkF m 4 #[.val (.ref self), .val (.ref vw), .unset] [(.ref me)]))
  refine Comes.st (fun t k => XS.astoreN X1.here hx rfl (hb hby d9_4) rfl rfl (l' := #[.val (.ref self), .val (.ref vw), .val (.ref me)]) rfl (XS.aloadN X1.here hx rfl (hb hby d9_5) rfl rfl k)) ?_
  show Comes p e below _ (T1.setTop (mkF m 6 #[.val (.ref self), .val (.ref vw), .val (.ref me)] [(.ref vw)]))
  obtain ⟨cq2, kq2, q2a, q2b, q2c⟩ := isOf hZ hs1 G1
  obtain ⟨_, _, ⟨T2, L2, k2, n2⟩, -, X2, ⟨Lc2, hQ2, l2, y2, z2⟩, st2⟩ := X1.virtualBack hx (y := (⟨"com/example/evenring/evenring/LoadView", "load", "()I"⟩ : MethodName)) (z := (⟨"com/example/evenring/evenring/LoadView", "load", "()I"⟩ : MethodName)) hown (mvT hZ (hw _ (List.mem_of_getElem? (i := 76) rfl))) (mvT hZ (hw _ (List.mem_of_getElem? (i := 77) rfl))) (notFace_of_selects (args := #[]) (mvT hZ (hw _ (List.mem_of_getElem? (i := 79) rfl)))) (mvT hZ (hw _ (List.mem_of_getElem? (i := 79) rfl))) (mvT hZ (hw _ (List.mem_of_getElem? (i := 78) rfl))) (by decide) (backOf (W := 0) (rm11 l Z a0 hw [] vw ld h0 n0 (by omega)  G2) hZ (hw _ (List.mem_of_getElem? (i := 80) rfl)) (hw _ (List.mem_of_getElem? (i := 4) rfl)) (by decide) (by decide)) q2a q2c (g := (mkF m 6 #[.val (.ref self), .val (.ref vw), .val (.ref me)] [(.ref vw)])) rfl (by rw [hml]; rfl) (Steps.refl _) (argsL := []) (rest := []) (lenOf pd_2 rfl) rfl (by show 2 * 0 + _ ≤ _; exact Nat.le_of_eq rfl) (hb hby d9_6) (fun _ _ => ⟨rfl, hs1, (by decide : 0 + 0 ≤ _), (by decide : 0 + 0 ≤ _)⟩)
  dsimp only [Pt.U, Pt.locs, Pt.cells, Pt.slots] at X2 l2 y2 z2 st2 hQ2
  subst l2 y2 z2
  obtain ⟨rfl, Nq2, hs2⟩ := hQ2
  have N2 := Fr.app N1 Nq2
  refine Comes.go st2 ?_
  show Comes p e below _ (T2.setTop (mkF m 9 #[.val (.ref self), .val (.ref vw), .val (.ref me)] [(.int ld)]))
  refine Comes.st (fun t k => XS.i2dS X2.here hx rfl (hb hby d9_9) rfl rfl (XS.aloadN X2.here hx rfl (hb hby d9_10) rfl rfl k)) ?_
  show Comes p e below _ (T2.setTop (mkF m 11 #[.val (.ref self), .val (.ref vw), .val (.ref me)] [(.ref me), (.double (FP.i2d ld))]))
  obtain ⟨cq3, kq3, q3a, q3b, q3c⟩ := isOf hZ hs2 G4
  obtain ⟨_, _, ⟨T3, L3, k3, n3⟩, -, X3, ⟨Lc3, hQ3, l3, y3, z3⟩, st3⟩ := X2.virtualBack hx (y := (⟨"com/example/evenring/evenring/LoadView$Mean", "peers", "()D"⟩ : MethodName)) (z := (⟨"com/example/evenring/evenring/LoadView$Mean", "peers", "()D"⟩ : MethodName)) hown (mvT hZ (hw _ (List.mem_of_getElem? (i := 81) rfl))) (mvT hZ (hw _ (List.mem_of_getElem? (i := 82) rfl))) (notFace_of_selects (args := #[]) (mvT hZ (hw _ (List.mem_of_getElem? (i := 84) rfl)))) (mvT hZ (hw _ (List.mem_of_getElem? (i := 84) rfl))) (mvT hZ (hw _ (List.mem_of_getElem? (i := 83) rfl))) (by decide) (backOf (W := 2) (rm12 l Z a0 hw [] me fp h0 n0 (by omega)  G5) hZ (hw _ (List.mem_of_getElem? (i := 85) rfl)) (hw _ (List.mem_of_getElem? (i := 33) rfl)) (by decide) (by decide)) q3a q3c (g := (mkF m 11 #[.val (.ref self), .val (.ref vw), .val (.ref me)] [(.ref me), (.double (FP.i2d ld))])) rfl (by rw [hml]; rfl) (Steps.refl _) (argsL := []) (rest := [(.double (FP.i2d ld))]) (lenOf pd_3 rfl) rfl (by show 2 * 0 + _ ≤ _; exact Nat.le_of_eq rfl) (hb hby d9_11) (fun _ _ => ⟨rfl, hs2, (by decide : 0 + 0 ≤ _), (by decide : 0 + 0 ≤ _)⟩)
  dsimp only [Pt.U, Pt.locs, Pt.cells, Pt.slots] at X3 l3 y3 z3 st3 hQ3
  subst l3 y3 z3
  obtain ⟨rfl, Nq3, hs3⟩ := hQ3
  have N3 := Fr.app N2 Nq3
  refine Comes.go st3 ?_
  show Comes p e below _ (T3.setTop (mkF m 14 #[.val (.ref self), .val (.ref vw), .val (.ref me)] [(.double fp), (.double (FP.i2d ld))]))
  refine Comes.st (fun t k => XS.dmulS X3.here hx rfl (hb hby d9_14) rfl (by assumption) rfl (XS.aloadN X3.here hx rfl (hb hby d9_15) rfl rfl k)) ?_
  show Comes p e below _ (T3.setTop (mkF m 16 #[.val (.ref self), .val (.ref vw), .val (.ref me)] [(.ref self), (.double (FP.dmul (FP.i2d ld) fp))]))
  obtain ⟨T4, X4, e4, st4⟩ := getF X3 hx hZ hown (host := "") (Or.inl (hw _ (List.mem_of_getElem? (i := 64) rfl))) Via.refl hs3 G0 (g := (mkF m 16 #[.val (.ref self), .val (.ref vw), .val (.ref me)] [(.ref self), (.double (FP.dmul (FP.i2d ld) fp))])) rfl rfl (hb hby d9_16)
  refine Comes.st st4 ?_
  show Comes p e below _ (T4.setTop (mkF m 19 #[.val (.ref self), .val (.ref vw), .val (.ref me)] [(.int fc), (.double (FP.dmul (FP.i2d ld) fp))]))
  refine Comes.st (fun t k => XS.i2dS X4.here hx rfl (hb hby d9_19) rfl rfl (XS.aloadN X4.here hx rfl (hb hby d9_20) rfl rfl k)) ?_
  show Comes p e below _ (T4.setTop (mkF m 21 #[.val (.ref self), .val (.ref vw), .val (.ref me)] [(.ref me), (.double (FP.i2d fc)), (.double (FP.dmul (FP.i2d ld) fp))]))
  obtain ⟨cq5, kq5, q5a, q5b, q5c⟩ := isOf hZ e4 G4
  obtain ⟨_, _, ⟨T5, L5, k5, n5⟩, -, X5, ⟨Lc5, hQ5, l5, y5, z5⟩, st5⟩ := X4.virtualBack hx (y := (⟨"com/example/evenring/evenring/LoadView$Mean", "load", "()D"⟩ : MethodName)) (z := (⟨"com/example/evenring/evenring/LoadView$Mean", "load", "()D"⟩ : MethodName)) hown (mvT hZ (hw _ (List.mem_of_getElem? (i := 86) rfl))) (mvT hZ (hw _ (List.mem_of_getElem? (i := 87) rfl))) (notFace_of_selects (args := #[]) (mvT hZ (hw _ (List.mem_of_getElem? (i := 89) rfl)))) (mvT hZ (hw _ (List.mem_of_getElem? (i := 89) rfl))) (mvT hZ (hw _ (List.mem_of_getElem? (i := 88) rfl))) (by decide) (backOf (W := 4) (rm13 l Z a0 hw [] me fl h0 n0 (by omega)  G6) hZ (hw _ (List.mem_of_getElem? (i := 90) rfl)) (hw _ (List.mem_of_getElem? (i := 33) rfl)) (by decide) (by decide)) q5a q5c (g := (mkF m 21 #[.val (.ref self), .val (.ref vw), .val (.ref me)] [(.ref me), (.double (FP.i2d fc)), (.double (FP.dmul (FP.i2d ld) fp))])) rfl (by rw [hml]; rfl) (Steps.refl _) (argsL := []) (rest := [(.double (FP.i2d fc)), (.double (FP.dmul (FP.i2d ld) fp))]) (lenOf pd_3 rfl) rfl (by show 2 * 0 + _ ≤ _; exact Nat.le_of_eq rfl) (hb hby d9_21) (fun _ _ => ⟨rfl, e4, (by decide : 0 + 0 ≤ _), (by decide : 0 + 0 ≤ _)⟩)
  dsimp only [Pt.U, Pt.locs, Pt.cells, Pt.slots] at X5 l5 y5 z5 st5 hQ5
  subst l5 y5 z5
  obtain ⟨rfl, Nq5, hs5⟩ := hQ5
  have N5 := Fr.app N3 Nq5
  refine Comes.go st5 ?_
  show Comes p e below _ (T5.setTop (mkF m 24 #[.val (.ref self), .val (.ref vw), .val (.ref me)] [(.double fl), (.double (FP.i2d fc)), (.double (FP.dmul (FP.i2d ld) fp))]))
  refine Comes.st (fun t k => XS.dmulS X5.here hx rfl (hb hby d9_24) rfl (by assumption) rfl k) ?_
  show Comes p e below _ (T5.setTop (mkF m 25 #[.val (.ref self), .val (.ref vw), .val (.ref me)] [(.double (FP.dmul (FP.i2d fc) fl)), (.double (FP.dmul (FP.i2d ld) fp))]))
  refine Comes.st (fun t k => XS.dcmpS X5.here hx rfl (hb hby d9_25) (v := (Jvm.Op.cmpValue (FP.dcmp (FP.dmul (FP.i2d ld) fp) (FP.dmul (FP.i2d fc) fl)) .l)) rfl rfl k) ?_
  show Comes p e below _ (T5.setTop (mkF m 26 #[.val (.ref self), .val (.ref vw), .val (.ref me)] [(.int (Jvm.Op.cmpValue (FP.dcmp (FP.dmul (FP.i2d ld) fp) (FP.dmul (FP.i2d fc) fl)) .l))]))
  by_cases hc26_6 : (0 : Int32) < (Jvm.Op.cmpValue (FP.dcmp (FP.dmul (FP.i2d ld) fp) (FP.dmul (FP.i2d fc) fl)) .l)
  · refine Comes.st (fun t k => XS.ifNo X5.here hx rfl (hb hby d9_26) rfl ((if0 _ _).trans (tlt hc26_6).2.2.2) (XS.iconst X5.here hx rfl (hb hby d9_29) (XS.goto X5.here hx rfl (pc0 := 30) (pc' := 34) rfl (hb hby d9_30) (by decide) (by decide) k))) ?_
    show Comes p e below _ (T5.setTop (mkF m 34 #[.val (.ref self), .val (.ref vw), .val (.ref me)] [(.int (1 : Int32))]))
    exact Comes.retN X5 hx (t := .boolean) Bd.returns (by simp) hlk (hb hby d9_34) hs5 ⟨(1 : Int32), rfl, N5, rfl, (by first | exact Or.inl ⟨by assumption, rfl⟩ | exact Or.inr ⟨by assumption, rfl⟩)⟩ (by decide) (by decide)
  · refine Comes.st (fun t k => XS.ifYes X5.here hx rfl (pc0 := 26) (pc' := 33) rfl (hb hby d9_26) rfl ((if0 _ _).trans (flt hc26_6).2.2.2) (by decide) (by decide) (XS.iconst X5.here hx rfl (hb hby d9_33) k)) ?_
    show Comes p e below _ (T5.setTop (mkF m 34 #[.val (.ref self), .val (.ref vw), .val (.ref me)] [(.int (0 : Int32))]))
    exact Comes.retN X5 hx (t := .boolean) Bd.returns (by simp) hlk (hb hby d9_34) hs5 ⟨(0 : Int32), rfl, N5, rfl, (by first | exact Or.inl ⟨by assumption, rfl⟩ | exact Or.inr ⟨by assumption, rfl⟩)⟩ (by decide) (by decide)
def Q_rm0 (Z : State) (ld : Int32) (fc : Int32) (mm : Int32) (pp : Int32) (dc : Nat) (h0 : Heap) (n0 : Nat) (v : Option Value) (h : Heap) (L : List Loc) : Prop := (v = some (.int (1 : Int32))) ∧ (Fr n0 L)
set_option maxRecDepth 65536 in
set_option maxHeartbeats 40000000 in
theorem rm0 (l : Launch) (Z : State) (a0 : Array Value) (hw : ∀ d ∈ tables_1, d.before a0 Z = true) (ws : List Jvm.Cond) (ld : Int32) (fc : Int32) (mm : Int32) (pp : Int32) (dc : Nat) (h0 : Heap) (n0 : Nat) (Z0 : n0 ≤ h0.size) (G0 : Sta Z Z.heap "java/util/ArrayList" "DEFAULTCAPACITY_EMPTY_ELEMENTDATA" "[Ljava/lang/Object;" (.ref dc)) (G1 : Old Z n0 h0) :
    MetFree l x (head1 (Jvm.Cond.code x code maxLocals ret :: ws) room_1) (fun a U => a = #[(.int ld), (.int fc), (.int mm), (.int pp)] ∧ Z.Warmed39 U.vm ∧ U.heap = h0) (fun _ _ _ _ _ => True) (fun _ U o U' => ∃ v L, o = .returned v ∧ Q_rm0 Z ld fc mm pp dc h0 n0 v U'.heap L ∧ FrameEnd U o U' L room_1.cells room_1.slots) := by
  refine MetFree.of_bodySF (plainFor_of_name pn_0) hisR ?_
  intro p e s m args below meth c s₁ Bd hml0 hP hK
  obtain ⟨rfl, hZ, hh⟩ := hP
  have hx := Bd.exec
  have hby := Bd.bytes
  have hml : c.maxLocals = 13 := hml0
  have hown : s.vm.findClass "com/example/evenring/evenring/OverallIsOverloadedPinLaw" = some m.cls := findClass_of_methodNamed Bd.named
  have hnm := (name_of_methodNamed Bd.named Bd.method).1
  have hlk : meth.locks = false := Bd.notSynchronized
  have X0 : Stand p l e room_1 s m #[(.int ld), (.int fc), (.int mm), (.int pp)] below meth c s₁ [] 0 0 := Stand.of_body Bd
  have e0 : s₁.heap = h0 := by rw [← hh, Bd.state]; rfl
  have N0 := Fr.nil n0
  refine Comes.out (Q := Q_rm0 Z ld fc mm pp dc h0 n0) (kc := room_1.cells) (ks := room_1.slots) ?_
  refine Comes.cast (ef_rm0 m ld fc mm pp) ?_
  show Comes p e below _ (s₁.setTop (mkF m 0 #[.val (.int ld), .val (.int fc), .val (.int mm), .val (.int pp), .unset, .unset, .unset, .unset, .unset, .unset, .unset, .unset, .unset] []))
  refine Comes.st (fun t k => XS.iloadN X0.here hx rfl (hb hby at_0) rfl (XS.bipush X0.here hx rfl (hb hby at_1) (XS.ishl X0.here hx rfl (hb hby at_3) rfl (XS.bipush X0.here hx rfl (hb hby at_4) (XS.ishr X0.here hx rfl (hb hby at_6) rfl k))))) ?_
  show Comes p e below _ (s₁.setTop (mkF m 7 #[.val (.int ld), .val (.int fc), .val (.int mm), .val (.int pp), .unset, .unset, .unset, .unset, .unset, .unset, .unset, .unset, .unset] [(.int ((mm <<< ((11 : Int32) &&& 31)) >>> ((11 : Int32) &&& 31)))]))
  generalize hv_v1 : ((mm <<< ((11 : Int32) &&& 31)) >>> ((11 : Int32) &&& 31)) = v1
  show Comes p e below _ (s₁.setTop (mkF m 7 #[.val (.int ld), .val (.int fc), .val (.int mm), .val (.int pp), .unset, .unset, .unset, .unset, .unset, .unset, .unset, .unset, .unset] [(.int v1)]))
  refine Comes.st (fun t k => XS.istore X0.here hx rfl (hb hby at_7) rfl (l' := #[.val (.int ld), .val (.int fc), .val (.int mm), .val (.int pp), .val (.int v1), .unset, .unset, .unset, .unset, .unset, .unset, .unset, .unset]) rfl (XS.iloadN X0.here hx rfl (hb hby at_9) rfl (X0.ldcInt hx hown (mvT hZ (hw _ (List.mem_of_getElem? (i := 0) rfl))) (g := (mkF m 10 #[.val (.int ld), .val (.int fc), .val (.int mm), .val (.int pp), .val (.int v1), .unset, .unset, .unset, .unset, .unset, .unset, .unset, .unset] [(.int pp)])) rfl (hb hby at_10) _ (XS.iand X0.here hx rfl (hb hby at_12) rfl k)))) ?_
  show Comes p e below _ (s₁.setTop (mkF m 13 #[.val (.int ld), .val (.int fc), .val (.int mm), .val (.int pp), .val (.int v1), .unset, .unset, .unset, .unset, .unset, .unset, .unset, .unset] [(.int (pp &&& (2097151 : Int32)))]))
  generalize hv_v2 : (pp &&& (2097151 : Int32)) = v2
  show Comes p e below _ (s₁.setTop (mkF m 13 #[.val (.int ld), .val (.int fc), .val (.int mm), .val (.int pp), .val (.int v1), .unset, .unset, .unset, .unset, .unset, .unset, .unset, .unset] [(.int v2)]))
  refine Comes.st (fun t k => XS.istore X0.here hx rfl (hb hby at_13) rfl (l' := #[.val (.int ld), .val (.int fc), .val (.int mm), .val (.int pp), .val (.int v1), .val (.int v2), .unset, .unset, .unset, .unset, .unset, .unset, .unset]) rfl (XS.iload X0.here hx rfl (hb hby at_15) rfl (XS.i2dS X0.here hx rfl (hb hby at_17) rfl rfl (X0.ldc2DoubleC hx hown (mvT hZ (hw _ (List.mem_of_getElem? (i := 1) rfl))) (g := (mkF m 18 #[.val (.int ld), .val (.int fc), .val (.int mm), .val (.int pp), .val (.int v1), .val (.int v2), .unset, .unset, .unset, .unset, .unset, .unset, .unset] [(.double (FP.i2d v1))])) rfl (hb hby at_18) _ k)))) ?_
  show Comes p e below _ (s₁.setTop (mkF m 21 #[.val (.int ld), .val (.int fc), .val (.int mm), .val (.int pp), .val (.int v1), .val (.int v2), .unset, .unset, .unset, .unset, .unset, .unset, .unset] [(.double (4616189618054758400 : UInt64)), (.double (FP.i2d v1))]))
  refine Comes.st (fun t k => XS.ddivS X0.here hx rfl (hb hby at_21) rfl (own_quart_num (own_quart_div v1)) rfl (XS.dstore X0.here hx rfl (hb hby at_22) rfl (l' := #[.val (.int ld), .val (.int fc), .val (.int mm), .val (.int pp), .val (.int v1), .val (.int v2), .val (.double (FP.ddiv (FP.i2d v1) (4616189618054758400 : UInt64))), .second, .unset, .unset, .unset, .unset, .unset]) rfl (XS.iload X0.here hx rfl (hb hby at_24) rfl (XS.i2dS X0.here hx rfl (hb hby at_26) rfl rfl (X0.ldc2DoubleC hx hown (mvT hZ (hw _ (List.mem_of_getElem? (i := 1) rfl))) (g := (mkF m 27 #[.val (.int ld), .val (.int fc), .val (.int mm), .val (.int pp), .val (.int v1), .val (.int v2), .val (.double (FP.ddiv (FP.i2d v1) (4616189618054758400 : UInt64))), .second, .unset, .unset, .unset, .unset, .unset] [(.double (FP.i2d v2))])) rfl (hb hby at_27) _ k))))) ?_
  show Comes p e below _ (s₁.setTop (mkF m 30 #[.val (.int ld), .val (.int fc), .val (.int mm), .val (.int pp), .val (.int v1), .val (.int v2), .val (.double (FP.ddiv (FP.i2d v1) (4616189618054758400 : UInt64))), .second, .unset, .unset, .unset, .unset, .unset] [(.double (4616189618054758400 : UInt64)), (.double (FP.i2d v2))]))
  refine Comes.st (fun t k => XS.ddivS X0.here hx rfl (hb hby at_30) rfl (own_quart_num (own_quart_div v2)) rfl (XS.dstore X0.here hx rfl (hb hby at_31) rfl (l' := #[.val (.int ld), .val (.int fc), .val (.int mm), .val (.int pp), .val (.int v1), .val (.int v2), .val (.double (FP.ddiv (FP.i2d v1) (4616189618054758400 : UInt64))), .second, .val (.double (FP.ddiv (FP.i2d v2) (4616189618054758400 : UInt64))), .second, .unset, .unset, .unset]) rfl k)) ?_
  have own_o := own_over ld fc v1 v2 (by have a_0 := c_ishl mm (11 : Int32) 11 (by decide); have a_1 := c_ishr (mm <<< ((11 : Int32) &&& 31)) (11 : Int32) 11 (by decide); rw [hv_v1] at a_1; have a_2 := c_mask pp (2097151 : Int32) 21 (by decide) (by decide); rw [hv_v2] at a_2; have a_3 := rng32 (mm <<< ((11 : Int32) &&& 31)); have a_4 := rng32 mm; have a_5 := rng32 pp; have a_6 := rng32 v1; have a_7 := rng32 v2; (try simp only [Int32.lt_iff_toInt_lt, Int64.lt_iff_toInt_lt, ← Int32.toInt_inj, ← Int64.toInt_inj, Int32.reduceToInt, Int64.reduceToInt, eq_self, and_true, true_and, or_true, true_or, and_false, false_and, or_false, false_or, not_true_eq_false, not_false_eq_true] at a_0 a_1 a_2 a_3 a_4 a_5 a_6 a_7 ⊢) <;> omega) (by have a_0 := c_ishl mm (11 : Int32) 11 (by decide); have a_1 := c_ishr (mm <<< ((11 : Int32) &&& 31)) (11 : Int32) 11 (by decide); rw [hv_v1] at a_1; have a_2 := c_mask pp (2097151 : Int32) 21 (by decide) (by decide); rw [hv_v2] at a_2; have a_3 := rng32 (mm <<< ((11 : Int32) &&& 31)); have a_4 := rng32 mm; have a_5 := rng32 pp; have a_6 := rng32 v1; have a_7 := rng32 v2; (try simp only [Int32.lt_iff_toInt_lt, Int64.lt_iff_toInt_lt, ← Int32.toInt_inj, ← Int64.toInt_inj, Int32.reduceToInt, Int64.reduceToInt, eq_self, and_true, true_and, or_true, true_or, and_false, false_and, or_false, false_or, not_true_eq_false, not_false_eq_true] at a_0 a_1 a_2 a_3 a_4 a_5 a_6 a_7 ⊢) <;> omega)
  have own_k := own_o.2.2
  show Comes p e below _ (s₁.setTop (mkF m 33 #[.val (.int ld), .val (.int fc), .val (.int mm), .val (.int pp), .val (.int v1), .val (.int v2), .val (.double (FP.ddiv (FP.i2d v1) (4616189618054758400 : UInt64))), .second, .val (.double (FP.ddiv (FP.i2d v2) (4616189618054758400 : UInt64))), .second, .unset, .unset, .unset] []))
  obtain ⟨T3, h3, X3, e3, E3, A3, D3, -, st3⟩ := newO X0 hx hZ hown (hw _ (List.mem_of_getElem? (i := 2) rfl)) (hw _ (List.mem_of_getElem? (i := 3) rfl)) (hw _ (List.mem_of_getElem? (i := 4) rfl)) e0 (g := (mkF m 33 #[.val (.int ld), .val (.int fc), .val (.int mm), .val (.int pp), .val (.int v1), .val (.int v2), .val (.double (FP.ddiv (FP.i2d v1) (4616189618054758400 : UInt64))), .second, .val (.double (FP.ddiv (FP.i2d v2) (4616189618054758400 : UInt64))), .second, .unset, .unset, .unset] [])) rfl (hb hby at_33) (by decide) (by decide)
  obtain ⟨b3, g3⟩ : ∃ z, z = h0.size := ⟨_, rfl⟩
  rw [← g3] at A3 D3 st3
  have z3 : h0.size ≤ h3.size := E3.1
  have lt3 : b3 < h3.size := A3.lt
  have F4 : Fld Z h3 b3 "com/example/evenring/evenring/LoadView" "load" "I" (.int (0 : Int32)) := D3 (Or.inr (hw _ (List.mem_of_getElem? (i := 52) rfl))) (ty := .int) (by decide)
  have F5 : Fld Z h3 b3 "com/example/evenring/evenring/LoadView" "successors" "Ljava/util/List;" .null := D3 (Or.inr (hw _ (List.mem_of_getElem? (i := 54) rfl))) (ty := (.object "java/util/List")) (by decide)
  have F6 : Fld Z h3 b3 "com/example/evenring/evenring/LoadView" "mean" "Lcom/example/evenring/evenring/LoadView$Mean;" .null := D3 (Or.inr (hw _ (List.mem_of_getElem? (i := 56) rfl))) (ty := (.object "com/example/evenring/evenring/LoadView$Mean")) (by decide)
  refine Comes.st st3 ?_
  show Comes p e below _ (T3.setTop (mkF m 36 #[.val (.int ld), .val (.int fc), .val (.int mm), .val (.int pp), .val (.int v1), .val (.int v2), .val (.double (FP.ddiv (FP.i2d v1) (4616189618054758400 : UInt64))), .second, .val (.double (FP.ddiv (FP.i2d v2) (4616189618054758400 : UInt64))), .second, .unset, .unset, .unset] [(.ref b3)]))
  refine Comes.st (fun t k => XS.dup X3.here hx rfl (hb hby at_36) rfl rfl (XS.iloadN X3.here hx rfl (hb hby at_37) rfl k)) ?_
  show Comes p e below _ (T3.setTop (mkF m 38 #[.val (.int ld), .val (.int fc), .val (.int mm), .val (.int pp), .val (.int v1), .val (.int v2), .val (.double (FP.ddiv (FP.i2d v1) (4616189618054758400 : UInt64))), .second, .val (.double (FP.ddiv (FP.i2d v2) (4616189618054758400 : UInt64))), .second, .unset, .unset, .unset] [(.int ld), (.ref b3), (.ref b3)]))
  obtain ⟨T7, h7, X7, e7, E7, A7, D7, -, st7⟩ := newO X3 hx hZ hown (hw _ (List.mem_of_getElem? (i := 5) rfl)) (hw _ (List.mem_of_getElem? (i := 6) rfl)) (hw _ (List.mem_of_getElem? (i := 7) rfl)) e3 (g := (mkF m 38 #[.val (.int ld), .val (.int fc), .val (.int mm), .val (.int pp), .val (.int v1), .val (.int v2), .val (.double (FP.ddiv (FP.i2d v1) (4616189618054758400 : UInt64))), .second, .val (.double (FP.ddiv (FP.i2d v2) (4616189618054758400 : UInt64))), .second, .unset, .unset, .unset] [(.int ld), (.ref b3), (.ref b3)])) rfl (hb hby at_38) (by decide) (by decide)
  obtain ⟨b7, g7⟩ : ∃ z, z = h3.size := ⟨_, rfl⟩
  rw [← g7] at A7 D7 st7
  have z7 : h3.size ≤ h7.size := E7.1
  have lt7 : b7 < h7.size := A7.lt
  have F8 : Fld Z h7 b7 "java/util/AbstractList" "modCount" "I" (.int (0 : Int32)) := D7 (Or.inl (hw _ (List.mem_of_getElem? (i := 27) rfl))) (ty := .int) (by decide)
  have F9 : Fld Z h7 b7 "java/util/ArrayList" "elementData" "[Ljava/lang/Object;" .null := D7 (Or.inl (hw _ (List.mem_of_getElem? (i := 30) rfl))) (ty := (.array (.object "java/lang/Object"))) (by decide)
  refine Comes.st st7 ?_
  show Comes p e below _ (T7.setTop (mkF m 41 #[.val (.int ld), .val (.int fc), .val (.int mm), .val (.int pp), .val (.int v1), .val (.int v2), .val (.double (FP.ddiv (FP.i2d v1) (4616189618054758400 : UInt64))), .second, .val (.double (FP.ddiv (FP.i2d v2) (4616189618054758400 : UInt64))), .second, .unset, .unset, .unset] [(.ref b7), (.int ld), (.ref b3), (.ref b3)]))
  refine Comes.st (fun t k => XS.dup X7.here hx rfl (hb hby at_41) rfl rfl k) ?_
  show Comes p e below _ (T7.setTop (mkF m 42 #[.val (.int ld), .val (.int fc), .val (.int mm), .val (.int pp), .val (.int v1), .val (.int v2), .val (.double (FP.ddiv (FP.i2d v1) (4616189618054758400 : UInt64))), .second, .val (.double (FP.ddiv (FP.i2d v2) (4616189618054758400 : UInt64))), .second, .unset, .unset, .unset] [(.ref b7), (.ref b7), (.int ld), (.ref b3), (.ref b3)]))
  have Od10 : Old Z n0 h7 := ((G1.ext E3).ext E7)
  obtain ⟨_, _, ⟨T11, L11, k11, n11⟩, -, X11, ⟨Lc11, hQ11, l11, y11, z11⟩, st11⟩ := X7.specialBack hx (y := (⟨"java/util/ArrayList", "<init>", "()V"⟩ : MethodName)) rfl hown (mvT hZ (hw _ (List.mem_of_getElem? (i := 8) rfl))) (mvT hZ (hw _ (List.mem_of_getElem? (i := 9) rfl))) (mvT hZ (hw _ (List.mem_of_getElem? (i := 10) rfl))) (by decide) (backOf (W := 4) (rm1 l Z a0 hw [] b7 dc h7 n0 (by omega)  A7 F9 F8 (by omega) G0 Od10) hZ (hw _ (List.mem_of_getElem? (i := 10) rfl)) (hw _ (List.mem_of_getElem? (i := 7) rfl)) (by decide) (by decide)) (g := (mkF m 42 #[.val (.int ld), .val (.int fc), .val (.int mm), .val (.int pp), .val (.int v1), .val (.int v2), .val (.double (FP.ddiv (FP.i2d v1) (4616189618054758400 : UInt64))), .second, .val (.double (FP.ddiv (FP.i2d v2) (4616189618054758400 : UInt64))), .second, .unset, .unset, .unset] [(.ref b7), (.ref b7), (.int ld), (.ref b3), (.ref b3)])) rfl (by rw [hml]; rfl) (Steps.refl _) (a := b7) (argsL := []) (rest := [(.ref b7), (.int ld), (.ref b3), (.ref b3)]) (lenOf pd_0 rfl) rfl (by show 2 * 0 + _ ≤ _; exact Nat.le_of_eq rfl) (hb hby at_42) (fun _ _ => ⟨rfl, e7, (by decide : 2 + 0 ≤ _), (by decide : 6 + 0 ≤ _)⟩)
  dsimp only [Pt.U, Pt.locs, Pt.cells, Pt.slots] at X11 l11 y11 z11 st11 hQ11
  subst l11 y11 z11
  obtain ⟨rfl, Nq11, Kq11, P11_0⟩ := hQ11
  have N11 := Fr.app N0 Nq11
  have z11k : h7.size ≤ T11.heap.size := Kq11.1
  refine Comes.go st11 ?_
  have lt_12 : b7 < T11.heap.size := P11_0.lt
  show Comes p e below _ (T11.setTop (mkF m 45 #[.val (.int ld), .val (.int fc), .val (.int mm), .val (.int pp), .val (.int v1), .val (.int v2), .val (.double (FP.ddiv (FP.i2d v1) (4616189618054758400 : UInt64))), .second, .val (.double (FP.ddiv (FP.i2d v2) (4616189618054758400 : UInt64))), .second, .unset, .unset, .unset] [(.ref b7), (.int ld), (.ref b3), (.ref b3)]))
  obtain ⟨T13, h13, X13, e13, E13, A13, D13, -, st13⟩ := newO X11 hx hZ hown (hw _ (List.mem_of_getElem? (i := 31) rfl)) (hw _ (List.mem_of_getElem? (i := 32) rfl)) (hw _ (List.mem_of_getElem? (i := 33) rfl)) rfl (g := (mkF m 45 #[.val (.int ld), .val (.int fc), .val (.int mm), .val (.int pp), .val (.int v1), .val (.int v2), .val (.double (FP.ddiv (FP.i2d v1) (4616189618054758400 : UInt64))), .second, .val (.double (FP.ddiv (FP.i2d v2) (4616189618054758400 : UInt64))), .second, .unset, .unset, .unset] [(.ref b7), (.int ld), (.ref b3), (.ref b3)])) rfl (hb hby at_45) (by decide) (by decide)
  obtain ⟨b13, g13⟩ : ∃ z, z = T11.heap.size := ⟨_, rfl⟩
  rw [← g13] at A13 D13 st13
  have z13 : T11.heap.size ≤ h13.size := E13.1
  have lt13 : b13 < h13.size := A13.lt
  have F14 : Fld Z h13 b13 "com/example/evenring/evenring/LoadView$Mean" "load" "D" (.double 0) := D13 (Or.inr (hw _ (List.mem_of_getElem? (i := 44) rfl))) (ty := .double) (by decide)
  have F15 : Fld Z h13 b13 "com/example/evenring/evenring/LoadView$Mean" "peers" "D" (.double 0) := D13 (Or.inr (hw _ (List.mem_of_getElem? (i := 46) rfl))) (ty := .double) (by decide)
  refine Comes.st st13 ?_
  show Comes p e below _ (T13.setTop (mkF m 48 #[.val (.int ld), .val (.int fc), .val (.int mm), .val (.int pp), .val (.int v1), .val (.int v2), .val (.double (FP.ddiv (FP.i2d v1) (4616189618054758400 : UInt64))), .second, .val (.double (FP.ddiv (FP.i2d v2) (4616189618054758400 : UInt64))), .second, .unset, .unset, .unset] [(.ref b13), (.ref b7), (.int ld), (.ref b3), (.ref b3)]))
  refine Comes.st (fun t k => XS.dup X13.here hx rfl (hb hby at_48) rfl rfl (XS.dload X13.here hx rfl (hb hby at_49) rfl (XS.dload X13.here hx rfl (hb hby at_51) rfl k))) ?_
  show Comes p e below _ (T13.setTop (mkF m 53 #[.val (.int ld), .val (.int fc), .val (.int mm), .val (.int pp), .val (.int v1), .val (.int v2), .val (.double (FP.ddiv (FP.i2d v1) (4616189618054758400 : UInt64))), .second, .val (.double (FP.ddiv (FP.i2d v2) (4616189618054758400 : UInt64))), .second, .unset, .unset, .unset] [(.double (FP.ddiv (FP.i2d v2) (4616189618054758400 : UInt64))), (.double (FP.ddiv (FP.i2d v1) (4616189618054758400 : UInt64))), (.ref b13), (.ref b13), (.ref b7), (.int ld), (.ref b3), (.ref b3)]))
  obtain ⟨_, _, ⟨T16, L16, k16, n16⟩, -, X16, ⟨Lc16, hQ16, l16, y16, z16⟩, st16⟩ := X13.specialBack hx (y := (⟨"com/example/evenring/evenring/LoadView$Mean", "<init>", "(DD)V"⟩ : MethodName)) rfl hown (mvT hZ (hw _ (List.mem_of_getElem? (i := 34) rfl))) (mvT hZ (hw _ (List.mem_of_getElem? (i := 35) rfl))) (mvT hZ (hw _ (List.mem_of_getElem? (i := 36) rfl))) (by decide) (backOf (W := 5) (rm5 l Z a0 hw [] b13 ((FP.ddiv (FP.i2d v1) (4616189618054758400 : UInt64))) ((FP.ddiv (FP.i2d v2) (4616189618054758400 : UInt64))) h13 n0 (by omega)  A13 F14 F15 (by omega)) hZ (hw _ (List.mem_of_getElem? (i := 36) rfl)) (hw _ (List.mem_of_getElem? (i := 33) rfl)) (by decide) (by decide)) (g := (mkF m 53 #[.val (.int ld), .val (.int fc), .val (.int mm), .val (.int pp), .val (.int v1), .val (.int v2), .val (.double (FP.ddiv (FP.i2d v1) (4616189618054758400 : UInt64))), .second, .val (.double (FP.ddiv (FP.i2d v2) (4616189618054758400 : UInt64))), .second, .unset, .unset, .unset] [(.double (FP.ddiv (FP.i2d v2) (4616189618054758400 : UInt64))), (.double (FP.ddiv (FP.i2d v1) (4616189618054758400 : UInt64))), (.ref b13), (.ref b13), (.ref b7), (.int ld), (.ref b3), (.ref b3)])) rfl (by rw [hml]; rfl) (Steps.refl _) (a := b13) (argsL := [(.double (FP.ddiv (FP.i2d v1) (4616189618054758400 : UInt64))), (.double (FP.ddiv (FP.i2d v2) (4616189618054758400 : UInt64)))]) (rest := [(.ref b13), (.ref b7), (.int ld), (.ref b3), (.ref b3)]) (lenOf pd_4 rfl) rfl (by show 2 * 0 + _ ≤ _; exact Nat.le_of_eq rfl) (hb hby at_53) (fun _ _ => ⟨rfl, e13, (by decide : 3 + 0 ≤ _), (by decide : 8 + 0 ≤ _)⟩)
  dsimp only [Pt.U, Pt.locs, Pt.cells, Pt.slots] at X16 l16 y16 z16 st16 hQ16
  subst l16 y16 z16
  obtain ⟨rfl, Nq16, Kq16, P16_0, P16_1, P16_2⟩ := hQ16
  have N16 := Fr.app N11 Nq16
  have z16k : h13.size ≤ T16.heap.size := Kq16.1
  refine Comes.go st16 ?_
  have lt_17 : b13 < T16.heap.size := P16_0.lt
  show Comes p e below _ (T16.setTop (mkF m 56 #[.val (.int ld), .val (.int fc), .val (.int mm), .val (.int pp), .val (.int v1), .val (.int v2), .val (.double (FP.ddiv (FP.i2d v1) (4616189618054758400 : UInt64))), .second, .val (.double (FP.ddiv (FP.i2d v2) (4616189618054758400 : UInt64))), .second, .unset, .unset, .unset] [(.ref b13), (.ref b7), (.int ld), (.ref b3), (.ref b3)]))
  have F18 : Exa Z T16.heap b3 "com/example/evenring/evenring/LoadView" := ((((A3.ext E7).keep Kq11).ext E13).keep Kq16)
  have ne19 : b3 ≠ b7 := by omega
  have ne20 : b3 ≠ b13 := by omega
  have F21 : Fld Z T16.heap b3 "com/example/evenring/evenring/LoadView" "load" "I" (.int (0 : Int32)) := ((((F4.ext E7).keep Kq11 (ninS ne19 nin0)).ext E13).keep Kq16 (ninS ne20 nin0))
  have F22 : Fld Z T16.heap b3 "com/example/evenring/evenring/LoadView" "successors" "Ljava/util/List;" .null := ((((F5.ext E7).keep Kq11 (ninS ne19 nin0)).ext E13).keep Kq16 (ninS ne20 nin0))
  have F23 : Fld Z T16.heap b3 "com/example/evenring/evenring/LoadView" "mean" "Lcom/example/evenring/evenring/LoadView$Mean;" .null := ((((F6.ext E7).keep Kq11 (ninS ne19 nin0)).ext E13).keep Kq16 (ninS ne20 nin0))
  obtain ⟨_, _, ⟨T24, L24, k24, n24⟩, -, X24, ⟨Lc24, hQ24, l24, y24, z24⟩, st24⟩ := X16.specialBack hx (y := (⟨"com/example/evenring/evenring/LoadView", "<init>", "(ILjava/util/List;Lcom/example/evenring/evenring/LoadView$Mean;)V"⟩ : MethodName)) rfl hown (mvT hZ (hw _ (List.mem_of_getElem? (i := 47) rfl))) (mvT hZ (hw _ (List.mem_of_getElem? (i := 48) rfl))) (mvT hZ (hw _ (List.mem_of_getElem? (i := 49) rfl))) (by decide) (backOf (W := 1) (rm7 l Z a0 hw [] b3 ld b7 b13 T16.heap n0 (by omega)  F18 F21 F22 F23 (by omega)) hZ (hw _ (List.mem_of_getElem? (i := 49) rfl)) (hw _ (List.mem_of_getElem? (i := 4) rfl)) (by decide) (by decide)) (g := (mkF m 56 #[.val (.int ld), .val (.int fc), .val (.int mm), .val (.int pp), .val (.int v1), .val (.int v2), .val (.double (FP.ddiv (FP.i2d v1) (4616189618054758400 : UInt64))), .second, .val (.double (FP.ddiv (FP.i2d v2) (4616189618054758400 : UInt64))), .second, .unset, .unset, .unset] [(.ref b13), (.ref b7), (.int ld), (.ref b3), (.ref b3)])) rfl (by rw [hml]; rfl) (Steps.refl _) (a := b3) (argsL := [(.int ld), (.ref b7), (.ref b13)]) (rest := [(.ref b3)]) (lenOf pd_5 rfl) rfl (by show 2 * 0 + _ ≤ _; exact Nat.le_of_eq rfl) (hb hby at_56) (fun _ _ => ⟨rfl, rfl, (by decide : 3 + 0 ≤ _), (by decide : 8 + 0 ≤ _)⟩)
  dsimp only [Pt.U, Pt.locs, Pt.cells, Pt.slots] at X24 l24 y24 z24 st24 hQ24
  subst l24 y24 z24
  obtain ⟨rfl, Nq24, Kq24, P24_0, P24_1, P24_2, P24_3⟩ := hQ24
  have N24 := Fr.app N16 Nq24
  have z24k : T16.heap.size ≤ T24.heap.size := Kq24.1
  refine Comes.go st24 ?_
  have lt_25 : b3 < T24.heap.size := P24_0.lt
  show Comes p e below _ (T24.setTop (mkF m 59 #[.val (.int ld), .val (.int fc), .val (.int mm), .val (.int pp), .val (.int v1), .val (.int v2), .val (.double (FP.ddiv (FP.i2d v1) (4616189618054758400 : UInt64))), .second, .val (.double (FP.ddiv (FP.i2d v2) (4616189618054758400 : UInt64))), .second, .unset, .unset, .unset] [(.ref b3)]))
  refine Comes.st (fun t k => XS.astore X24.here hx rfl (hb hby at_59) rfl rfl (l' := #[.val (.int ld), .val (.int fc), .val (.int mm), .val (.int pp), .val (.int v1), .val (.int v2), .val (.double (FP.ddiv (FP.i2d v1) (4616189618054758400 : UInt64))), .second, .val (.double (FP.ddiv (FP.i2d v2) (4616189618054758400 : UInt64))), .second, .val (.ref b3), .unset, .unset]) rfl k) ?_
  show Comes p e below _ (T24.setTop (mkF m 61 #[.val (.int ld), .val (.int fc), .val (.int mm), .val (.int pp), .val (.int v1), .val (.int v2), .val (.double (FP.ddiv (FP.i2d v1) (4616189618054758400 : UInt64))), .second, .val (.double (FP.ddiv (FP.i2d v2) (4616189618054758400 : UInt64))), .second, .val (.ref b3), .unset, .unset] []))
  obtain ⟨T26, h26, X26, e26, E26, A26, D26, -, st26⟩ := newO X24 hx hZ hown (hw _ (List.mem_of_getElem? (i := 57) rfl)) (hw _ (List.mem_of_getElem? (i := 58) rfl)) (hw _ (List.mem_of_getElem? (i := 59) rfl)) rfl (g := (mkF m 61 #[.val (.int ld), .val (.int fc), .val (.int mm), .val (.int pp), .val (.int v1), .val (.int v2), .val (.double (FP.ddiv (FP.i2d v1) (4616189618054758400 : UInt64))), .second, .val (.double (FP.ddiv (FP.i2d v2) (4616189618054758400 : UInt64))), .second, .val (.ref b3), .unset, .unset] [])) rfl (hb hby at_61) (by decide) (by decide)
  obtain ⟨b26, g26⟩ : ∃ z, z = T24.heap.size := ⟨_, rfl⟩
  rw [← g26] at A26 D26 st26
  have z26 : T24.heap.size ≤ h26.size := E26.1
  have lt26 : b26 < h26.size := A26.lt
  have F27 : Fld Z h26 b26 "com/example/evenring/evenring/LoadState$Overall" "factor" "I" (.int (0 : Int32)) := D26 (Or.inr (hw _ (List.mem_of_getElem? (i := 65) rfl))) (ty := .int) (by decide)
  refine Comes.st st26 ?_
  show Comes p e below _ (T26.setTop (mkF m 64 #[.val (.int ld), .val (.int fc), .val (.int mm), .val (.int pp), .val (.int v1), .val (.int v2), .val (.double (FP.ddiv (FP.i2d v1) (4616189618054758400 : UInt64))), .second, .val (.double (FP.ddiv (FP.i2d v2) (4616189618054758400 : UInt64))), .second, .val (.ref b3), .unset, .unset] [(.ref b26)]))
  refine Comes.st (fun t k => XS.dup X26.here hx rfl (hb hby at_64) rfl rfl (XS.iloadN X26.here hx rfl (hb hby at_65) rfl k)) ?_
  show Comes p e below _ (T26.setTop (mkF m 66 #[.val (.int ld), .val (.int fc), .val (.int mm), .val (.int pp), .val (.int v1), .val (.int v2), .val (.double (FP.ddiv (FP.i2d v1) (4616189618054758400 : UInt64))), .second, .val (.double (FP.ddiv (FP.i2d v2) (4616189618054758400 : UInt64))), .second, .val (.ref b3), .unset, .unset] [(.int fc), (.ref b26), (.ref b26)]))
  obtain ⟨_, _, ⟨T28, L28, k28, n28⟩, -, X28, ⟨Lc28, hQ28, l28, y28, z28⟩, st28⟩ := X26.specialBack hx (y := (⟨"com/example/evenring/evenring/LoadState$Overall", "<init>", "(I)V"⟩ : MethodName)) rfl hown (mvT hZ (hw _ (List.mem_of_getElem? (i := 60) rfl))) (mvT hZ (hw _ (List.mem_of_getElem? (i := 61) rfl))) (mvT hZ (hw _ (List.mem_of_getElem? (i := 62) rfl))) (by decide) (backOf (W := 1) (rm8 l Z a0 hw [] b26 fc h26 n0 (by omega)  A26 F27 (by omega)) hZ (hw _ (List.mem_of_getElem? (i := 62) rfl)) (hw _ (List.mem_of_getElem? (i := 59) rfl)) (by decide) (by decide)) (g := (mkF m 66 #[.val (.int ld), .val (.int fc), .val (.int mm), .val (.int pp), .val (.int v1), .val (.int v2), .val (.double (FP.ddiv (FP.i2d v1) (4616189618054758400 : UInt64))), .second, .val (.double (FP.ddiv (FP.i2d v2) (4616189618054758400 : UInt64))), .second, .val (.ref b3), .unset, .unset] [(.int fc), (.ref b26), (.ref b26)])) rfl (by rw [hml]; rfl) (Steps.refl _) (a := b26) (argsL := [(.int fc)]) (rest := [(.ref b26)]) (lenOf pd_6 rfl) rfl (by show 2 * 0 + _ ≤ _; exact Nat.le_of_eq rfl) (hb hby at_66) (fun _ _ => ⟨rfl, e26, (by decide : 4 + 0 ≤ _), (by decide : 9 + 0 ≤ _)⟩)
  dsimp only [Pt.U, Pt.locs, Pt.cells, Pt.slots] at X28 l28 y28 z28 st28 hQ28
  subst l28 y28 z28
  obtain ⟨rfl, Nq28, Kq28, P28_0, P28_1⟩ := hQ28
  have N28 := Fr.app N24 Nq28
  have z28k : h26.size ≤ T28.heap.size := Kq28.1
  refine Comes.go st28 ?_
  have lt_29 : b26 < T28.heap.size := P28_0.lt
  show Comes p e below _ (T28.setTop (mkF m 69 #[.val (.int ld), .val (.int fc), .val (.int mm), .val (.int pp), .val (.int v1), .val (.int v2), .val (.double (FP.ddiv (FP.i2d v1) (4616189618054758400 : UInt64))), .second, .val (.double (FP.ddiv (FP.i2d v2) (4616189618054758400 : UInt64))), .second, .val (.ref b3), .unset, .unset] [(.ref b26)]))
  refine Comes.st (fun t k => XS.aload X28.here hx rfl (hb hby at_69) rfl rfl k) ?_
  show Comes p e below _ (T28.setTop (mkF m 71 #[.val (.int ld), .val (.int fc), .val (.int mm), .val (.int pp), .val (.int v1), .val (.int v2), .val (.double (FP.ddiv (FP.i2d v1) (4616189618054758400 : UInt64))), .second, .val (.double (FP.ddiv (FP.i2d v2) (4616189618054758400 : UInt64))), .second, .val (.ref b3), .unset, .unset] [(.ref b3), (.ref b26)]))
  have F30 : Exa Z T28.heap b3 "com/example/evenring/evenring/LoadView" := ((P24_0.ext E26).keep Kq28)
  have ne31 : b3 ≠ b26 := by omega
  have F32 : Fld Z T28.heap b3 "com/example/evenring/evenring/LoadView" "load" "I" (.int ld) := ((P24_1.ext E26).keep Kq28 (ninS ne31 nin0))
  have F33 : Fld Z T28.heap b3 "com/example/evenring/evenring/LoadView" "mean" "Lcom/example/evenring/evenring/LoadView$Mean;" (.ref b13) := ((P24_3.ext E26).keep Kq28 (ninS ne31 nin0))
  have F34 : Exa Z T28.heap b13 "com/example/evenring/evenring/LoadView$Mean" := (((P16_0.keep Kq24).ext E26).keep Kq28)
  have ne35 : b13 ≠ b26 := by omega
  have F36 : Fld Z T28.heap b13 "com/example/evenring/evenring/LoadView$Mean" "peers" "D" (.double (FP.ddiv (FP.i2d v2) (4616189618054758400 : UInt64))) := (((P16_2.keep Kq24 (ninS (Ne.symm ne20) nin0)).ext E26).keep Kq28 (ninS ne35 nin0))
  have F37 : Fld Z T28.heap b13 "com/example/evenring/evenring/LoadView$Mean" "load" "D" (.double (FP.ddiv (FP.i2d v1) (4616189618054758400 : UInt64))) := (((P16_1.keep Kq24 (ninS (Ne.symm ne20) nin0)).ext E26).keep Kq28 (ninS ne35 nin0))
  obtain ⟨cq38, kq38, q38a, q38b, q38c⟩ := isOf hZ rfl P28_0
  obtain ⟨_, _, ⟨T38, L38, k38, n38⟩, -, X38, ⟨Lc38, hQ38, l38, y38, z38⟩, st38⟩ := X28.virtualBack hx (y := (⟨"com/example/evenring/evenring/LoadState$Overall", "isOverloaded", "(Lcom/example/evenring/evenring/LoadView;)Z"⟩ : MethodName)) (z := (⟨"com/example/evenring/evenring/LoadState$Overall", "isOverloaded", "(Lcom/example/evenring/evenring/LoadView;)Z"⟩ : MethodName)) hown (mvT hZ (hw _ (List.mem_of_getElem? (i := 66) rfl))) (mvT hZ (hw _ (List.mem_of_getElem? (i := 67) rfl))) (notFace_of_selects (args := #[]) (mvT hZ (hw _ (List.mem_of_getElem? (i := 69) rfl)))) (mvT hZ (hw _ (List.mem_of_getElem? (i := 69) rfl))) (mvT hZ (hw _ (List.mem_of_getElem? (i := 68) rfl))) (by decide) (backOf (W := 0) (rm9 l Z a0 hw [] b26 b3 fc ld b13 ((FP.ddiv (FP.i2d v2) (4616189618054758400 : UInt64))) ((FP.ddiv (FP.i2d v1) (4616189618054758400 : UInt64))) T28.heap n0 (by omega)  P28_1 F30 F32 F33 F34 F36 F37 (by first | exact own_o.1 | exact own_o.2.1) (by first | exact own_o.1 | exact own_o.2.1)) hZ (hw _ (List.mem_of_getElem? (i := 70) rfl)) (hw _ (List.mem_of_getElem? (i := 59) rfl)) (by decide) (by decide)) q38a q38c (g := (mkF m 71 #[.val (.int ld), .val (.int fc), .val (.int mm), .val (.int pp), .val (.int v1), .val (.int v2), .val (.double (FP.ddiv (FP.i2d v1) (4616189618054758400 : UInt64))), .second, .val (.double (FP.ddiv (FP.i2d v2) (4616189618054758400 : UInt64))), .second, .val (.ref b3), .unset, .unset] [(.ref b3), (.ref b26)])) rfl (by rw [hml]; rfl) (Steps.refl _) (argsL := [(.ref b3)]) (rest := []) (lenOf pd_7 rfl) rfl (by show 2 * 0 + _ ≤ _; exact Nat.le_of_eq rfl) (hb hby at_71) (fun _ _ => ⟨rfl, rfl, (by decide : 4 + 0 ≤ _), (by decide : 9 + 0 ≤ _)⟩)
  dsimp only [Pt.U, Pt.locs, Pt.cells, Pt.slots] at X38 l38 y38 z38 st38 hQ38
  subst l38 y38 z38
  obtain ⟨r39, rfl, Nq38, hs38, P38_0⟩ := hQ38
  have N38 := Fr.app N28 Nq38
  refine Comes.go st38 ?_
  show Comes p e below _ (T38.setTop (mkF m 74 #[.val (.int ld), .val (.int fc), .val (.int mm), .val (.int pp), .val (.int v1), .val (.int v2), .val (.double (FP.ddiv (FP.i2d v1) (4616189618054758400 : UInt64))), .second, .val (.double (FP.ddiv (FP.i2d v2) (4616189618054758400 : UInt64))), .second, .val (.ref b3), .unset, .unset] [(.int r39)]))
  refine Comes.st (fun t k => XS.istore X38.here hx rfl (hb hby at_74) rfl (l' := #[.val (.int ld), .val (.int fc), .val (.int mm), .val (.int pp), .val (.int v1), .val (.int v2), .val (.double (FP.ddiv (FP.i2d v1) (4616189618054758400 : UInt64))), .second, .val (.double (FP.ddiv (FP.i2d v2) (4616189618054758400 : UInt64))), .second, .val (.ref b3), .val (.int r39), .unset]) rfl (XS.iloadN X38.here hx rfl (hb hby at_76) rfl (XS.i2l X38.here hx rfl (hb hby at_77) rfl (XS.iload X38.here hx rfl (hb hby at_78) rfl (XS.i2l X38.here hx rfl (hb hby at_80) rfl (XS.lmul X38.here hx rfl (hb hby at_81) rfl k)))))) ?_
  show Comes p e below _ (T38.setTop (mkF m 82 #[.val (.int ld), .val (.int fc), .val (.int mm), .val (.int pp), .val (.int v1), .val (.int v2), .val (.double (FP.ddiv (FP.i2d v1) (4616189618054758400 : UInt64))), .second, .val (.double (FP.ddiv (FP.i2d v2) (4616189618054758400 : UInt64))), .second, .val (.ref b3), .val (.int r39), .unset] [(.long ((ld.toInt64) * (v2.toInt64)))]))
  refine Comes.st (fun t k => XS.iloadN X38.here hx rfl (hb hby at_82) rfl (XS.i2l X38.here hx rfl (hb hby at_83) rfl (XS.iload X38.here hx rfl (hb hby at_84) rfl (XS.i2l X38.here hx rfl (hb hby at_86) rfl (XS.lmul X38.here hx rfl (hb hby at_87) rfl (XS.lcmp X38.here hx rfl (hb hby at_88) rfl k)))))) ?_
  show Comes p e below _ (T38.setTop (mkF m 89 #[.val (.int ld), .val (.int fc), .val (.int mm), .val (.int pp), .val (.int v1), .val (.int v2), .val (.double (FP.ddiv (FP.i2d v1) (4616189618054758400 : UInt64))), .second, .val (.double (FP.ddiv (FP.i2d v2) (4616189618054758400 : UInt64))), .second, .val (.ref b3), .val (.int r39), .unset] [(.int (lcmpW ((ld.toInt64) * (v2.toInt64)) ((fc.toInt64) * (v1.toInt64))))]))
  by_cases hc89_40 : ((fc.toInt64) * (v1.toInt64)) < ((ld.toInt64) * (v2.toInt64))
  · refine Comes.st (fun t k => XS.ifNo X38.here hx rfl (hb hby at_89) rfl ((if0 _ _).trans (tlt ((lw_gt _ _).mpr hc89_40)).2.2.2) (XS.iconst X38.here hx rfl (hb hby at_92) (XS.goto X38.here hx rfl (pc0 := 93) (pc' := 97) rfl (hb hby at_93) (by decide) (by decide) (XS.istore X38.here hx rfl (hb hby at_97) rfl (l' := #[.val (.int ld), .val (.int fc), .val (.int mm), .val (.int pp), .val (.int v1), .val (.int v2), .val (.double (FP.ddiv (FP.i2d v1) (4616189618054758400 : UInt64))), .second, .val (.double (FP.ddiv (FP.i2d v2) (4616189618054758400 : UInt64))), .second, .val (.ref b3), .val (.int r39), .val (.int (1 : Int32))]) rfl (XS.iload X38.here hx rfl (hb hby at_99) rfl (XS.iload X38.here hx rfl (hb hby at_101) rfl k)))))) ?_
    show Comes p e below _ (T38.setTop (mkF m 103 #[.val (.int ld), .val (.int fc), .val (.int mm), .val (.int pp), .val (.int v1), .val (.int v2), .val (.double (FP.ddiv (FP.i2d v1) (4616189618054758400 : UInt64))), .second, .val (.double (FP.ddiv (FP.i2d v2) (4616189618054758400 : UInt64))), .second, .val (.ref b3), .val (.int r39), .val (.int (1 : Int32))] [(.int (1 : Int32)), (.int r39)]))
    have hc103_41 : r39 = (1 : Int32) := by rcases P38_0 with ⟨c1, c2⟩ | ⟨c1, c2⟩ <;> first | exact c2 | exact absurd (own_k.mp c1) hc89_40 | exact absurd (own_k.mpr hc89_40) c1
    refine Comes.st (fun t k => XS.icmpNo X38.here hx rfl (hb hby at_103) rfl (teq hc103_41).2 (XS.iconst X38.here hx rfl (hb hby at_106) (XS.goto X38.here hx rfl (pc0 := 107) (pc' := 111) rfl (hb hby at_107) (by decide) (by decide) k))) ?_
    show Comes p e below _ (T38.setTop (mkF m 111 #[.val (.int ld), .val (.int fc), .val (.int mm), .val (.int pp), .val (.int v1), .val (.int v2), .val (.double (FP.ddiv (FP.i2d v1) (4616189618054758400 : UInt64))), .second, .val (.double (FP.ddiv (FP.i2d v2) (4616189618054758400 : UInt64))), .second, .val (.ref b3), .val (.int r39), .val (.int (1 : Int32))] [(.int (1 : Int32))]))
    exact Comes.retN X38 hx (t := .boolean) Bd.returns (by simp) hlk (hb hby at_111) hs38 ⟨rfl, N38⟩ (by decide) (by decide)
  · refine Comes.st (fun t k => XS.ifYes X38.here hx rfl (pc0 := 89) (pc' := 96) rfl (hb hby at_89) rfl ((if0 _ _).trans (flt (fun q => hc89_40 ((lw_gt _ _).mp q))).2.2.2) (by decide) (by decide) (XS.iconst X38.here hx rfl (hb hby at_96) (XS.istore X38.here hx rfl (hb hby at_97) rfl (l' := #[.val (.int ld), .val (.int fc), .val (.int mm), .val (.int pp), .val (.int v1), .val (.int v2), .val (.double (FP.ddiv (FP.i2d v1) (4616189618054758400 : UInt64))), .second, .val (.double (FP.ddiv (FP.i2d v2) (4616189618054758400 : UInt64))), .second, .val (.ref b3), .val (.int r39), .val (.int (0 : Int32))]) rfl (XS.iload X38.here hx rfl (hb hby at_99) rfl (XS.iload X38.here hx rfl (hb hby at_101) rfl k))))) ?_
    show Comes p e below _ (T38.setTop (mkF m 103 #[.val (.int ld), .val (.int fc), .val (.int mm), .val (.int pp), .val (.int v1), .val (.int v2), .val (.double (FP.ddiv (FP.i2d v1) (4616189618054758400 : UInt64))), .second, .val (.double (FP.ddiv (FP.i2d v2) (4616189618054758400 : UInt64))), .second, .val (.ref b3), .val (.int r39), .val (.int (0 : Int32))] [(.int (0 : Int32)), (.int r39)]))
    have hc103_42 : r39 = (0 : Int32) := by rcases P38_0 with ⟨c1, c2⟩ | ⟨c1, c2⟩ <;> first | exact c2 | exact absurd (own_k.mp c1) hc89_40 | exact absurd (own_k.mpr hc89_40) c1
    refine Comes.st (fun t k => XS.icmpNo X38.here hx rfl (hb hby at_103) rfl (teq hc103_42).2 (XS.iconst X38.here hx rfl (hb hby at_106) (XS.goto X38.here hx rfl (pc0 := 107) (pc' := 111) rfl (hb hby at_107) (by decide) (by decide) k))) ?_
    show Comes p e below _ (T38.setTop (mkF m 111 #[.val (.int ld), .val (.int fc), .val (.int mm), .val (.int pp), .val (.int v1), .val (.int v2), .val (.double (FP.ddiv (FP.i2d v1) (4616189618054758400 : UInt64))), .second, .val (.double (FP.ddiv (FP.i2d v2) (4616189618054758400 : UInt64))), .second, .val (.ref b3), .val (.int r39), .val (.int (0 : Int32))] [(.int (1 : Int32))]))
    exact Comes.retN X38 hx (t := .boolean) Bd.returns (by simp) hlk (hb hby at_111) hs38 ⟨rfl, N38⟩ (by decide) (by decide)
set_option maxRecDepth 65536 in
set_option maxHeartbeats 40000000 in
theorem comes_1 {Post : Tables → Env → Array Value → State → Outcome → State → Prop} (hpost : ∀ tb e args s v u, (limb_1_1.after args s (.returned v) u = true ∧ limb_1_2.after args s (.returned v) u = true ∧ True) → FrameEnd s (.returned v) u (Jvm.fieldLocs frame_1_writes args s ++ Jvm.arrayLocs frame_1_arrays args s ++ Jvm.staticLocs frame_1_statics s) 16 128 → Post tb e args s (.returned v) u) :
    ArmFor flags0 classFile x code maxLocals ret World_1 tables_1 room_1 Calls_1 rest_1 Pre_1 Post := by
  intro l hfl _ _ p e ha hc hk s m args below hf hA hF happ hP
  obtain ⟨hcalls, hrest, hpre⟩ := hP
  obtain ⟨-, -, -, hnamed, -, -, -, hat⟩ := (Spec.applies_iff hf).mp happ
  obtain ⟨hg, hn⟩ := and_e (Cond.before_iff.mp (show (Jvm.Cond.and given_1 narrow_1).before args s = true from hpre))
  obtain ⟨c0, d0⟩ := and_e hg
  obtain ⟨c1, d1⟩ := and_e d0
  obtain ⟨c2, d2⟩ := and_e d1
  obtain ⟨c3, d3⟩ := and_e d2
  obtain ⟨w0, w1, w2, w3, rfl⟩ : ∃ w0 w1 w2 w3 : Value, args = #[w0, w1, w2, w3] := by
    have hs : args.size = 4 := by simpa [Cond.value, given_1] using c0
    obtain ⟨L⟩ := args
    match L, hs with
    | [w0, w1, w2, w3], _ => exact ⟨w0, w1, w2, w3, rfl⟩
  have hw := fun d (hd : d ∈ tables_1) => atoms_spec (ws := Jvm.Cond.code x code maxLocals ret :: tables_1) hat d (List.mem_cons_of_mem _ hd)
  have hfit : Fit s := fun {y c} hc i hi => by
    obtain ⟨ha, rfl⟩ := Array.getElem?_eq_some_iff.mp hc
    have q := List.all_eq_true.mp ((Array.all_eq_true_iff_forall_mem.mp hF) _ (Array.getElem_mem ha)) i (List.mem_range.mpr hi)
    simpa [Array.getElem?_eq_getElem hi] using q
  obtain ⟨i0, ei0⟩ := is_v c1
  obtain rfl : w0 = (.int i0) := Option.some.inj ei0
  obtain ⟨i1, ei1⟩ := is_v c2
  obtain rfl : w1 = (.int i1) := Option.some.inj ei1
  obtain ⟨i2, ei2⟩ := is_v c3
  obtain rfl : w2 = (.int i2) := Option.some.inj ei2
  obtain ⟨i3, ei3⟩ := is_v d3
  obtain rfl : w3 = (.int i3) := Option.some.inj ei3
  obtain ⟨hsets, hown0⟩ := atoms_of _ (rest_1_c_eq ▸ (show rest_1_c.before _ s = true from hrest))
  obtain ⟨dc, ed⟩ := exa_v (Cond.before_iff.mp (hsets _ (List.mem_of_getElem? (i := 7) rfl)))
  obtain ⟨n, o, h1, h2, h3, _, L, rfl, ⟨rfl, N⟩, hq⟩ := rm0 l s _ hw tables_1 i0 i1 i2 i3 dc s.heap s.heap.size (Nat.le_refl _) (Sta.start ed (Or.inr ⟨(hw _ (List.mem_of_getElem? (i := 7) rfl)), (hsets _ (List.mem_of_getElem? (i := 2) rfl))⟩)) (Old.start s) p e ha hc hk s m _ below hf ((Spec.applies_iff_loose hf).mp happ).1 ⟨rfl, State.Warmed39.refl s, rfl⟩ trivial
  refine ⟨n, _, h1, h2, h3, hpost _ _ _ _ _ _ ⟨Cond.after_iff.mpr rfl, Cond.after_iff.mpr (eq_i res_at (Term.int_eval (1)) rfl), trivial⟩ ⟨hq.1, hq.2.1, (hq.2.2.sift fun y hy => Or.inr (N y hy)).mono (by decide) (by decide)⟩⟩
theorem main_1_1 : Claimed_1_1 := comes_1 fun _ _ _ _ _ _ h hF => ⟨h.1, hF⟩
theorem main_1_2 : Claimed_1_2 := comes_1 fun _ _ _ _ _ _ h hF => ⟨h.2.1, hF⟩
end Jvm.Pilot.@@N@@
namespace Jvm.Pilot.@@N@@
open Jvm Jvm.ClassFile Sem Op Lib Jvm.Free Jvm.Stand Jvm.Pilot.@@N@@.Jvm.D
/-! MADE BY PROGRAM (witnessworld.py) out of the Statement's table words and the real class files: 23 classes; the members and pool entries that the words name. The judged class is class 1, her method 1. -/
namespace start1
open Jvm.ClassFile
def u (s : String) : CpInfo := .utf8 (stringToUtf16 s)
/-- a pool by its gaps: so many unusable entries, then the entry; so many at the end -/
def gap : Nat → List CpInfo → List CpInfo
  | 0, r => r
  | n + 1, r => .unusable :: gap n r
def poolList (es : List (Nat × CpInfo)) (last : Nat) : List CpInfo := es.foldr (fun e r => gap e.1 (e.2 :: r)) (gap last [])
def pool (es : List (Nat × CpInfo)) (last : Nat) : Array CpInfo := ⟨poolList es last⟩
def fileOf (pool : Array CpInfo) (this : Nat) (attrs : Array Attribute := #[]) (ms : Array MethodInfo := #[]) (fl : Nat := 33) (sup : Nat := 0) (ifs : Array Nat := #[]) (fds : Array FieldInfo := #[]) : ClassFile where
  minorVersion := 0
  majorVersion := 65
  constantPool := pool
  accessFlags := fl
  thisClass := this
  superClass := sup
  interfaces := ifs
  fields := fds
  methods := ms
  attributes := attrs
def plain (name : String) (sup : Option ClassId) : Class where
  name := name
  kind := .ordinary
  loader := none
  accessFlags := 33
  super := sup
  interfaces := #[]
  cf := none
  fields := #[]
  methods := #[]
  instanceTypes := #[]
  staticTypes := #[]
  resolved := #[]
  callSites := []
  init := .initialized
  statics := none
  mirror := none

def pool0 : Array CpInfo := pool [(5, u "<init>"), (0, u "()V"), (1, .class_ 10), (1, u "java/lang/Object")] 113

def k0c0 : Code := { maxStack := 0, maxLocals := 1, code := object_method_1_code, exceptionTable := #[], attributes := #[] }
def k0m0 : Method := { name := "<init>", desc := "()V", sig := { parameters := [], returnType := none }, accessFlags := 1, code := some k0c0 }
/-- java/lang/Object -/
def k0 : Class := { plain "java/lang/Object" none with
  accessFlags := 33
  interfaces := #[]
  cf := some (fileOf pool0 8 #[] #[{ accessFlags := 1, nameIndex := 5, descriptorIndex := 6, attributes := #[] }] 33 0 #[] #[])
  fields := #[]
  methods := #[k0m0]
  instanceTypes := #[]
  staticTypes := #[]
  resolved := Array.replicate 124 none
  statics := none }

def pool1 : Array CpInfo := pool [(2, .class_ 4), (0, .nameAndType 5 6), (0, u "java/lang/Object"), (0, u "<init>"), (0, u "()V"), (0, .integer 2097151), (0, .double 4616189618054758400), (1, .class_ 11), (0, u "com/example/evenring/evenring/LoadView"), (0, .class_ 13), (0, u "java/util/ArrayList"), (0, .methodref 12 3), (0, .class_ 16), (0, u "com/example/evenring/evenring/LoadView$Mean"), (0, .methodref 15 18), (0, .nameAndType 5 19), (0, u "(DD)V"), (0, .methodref 10 21), (0, .nameAndType 5 22), (0, u "(ILjava/util/List;Lcom/example/evenring/evenring/LoadView$Mean;)V"), (0, .class_ 24), (0, u "com/example/evenring/evenring/LoadState$Overall"), (0, .methodref 23 26), (0, .nameAndType 5 27), (0, u "(I)V"), (0, .methodref 23 29), (0, .nameAndType 30 31), (0, u "isOverloaded"), (0, u "(Lcom/example/evenring/evenring/LoadView;)Z"), (0, .class_ 33), (0, u "com/example/evenring/evenring/OverallIsOverloadedPinLaw"), (2, u "law"), (0, u "(IIII)Z")] 8

def k1m0 : Method := { name := "<init>", desc := "()V", sig := { parameters := [], returnType := none }, accessFlags := 1, code := none }
def k1c1 : Code := { maxStack := 10, maxLocals := 13, code := code, exceptionTable := #[], attributes := #[] }
def k1m1 : Method := { name := "law", desc := "(IIII)Z", sig := { parameters := [.int, .int, .int, .int], returnType := some .boolean }, accessFlags := 9, code := some k1c1 }
/-- com/example/evenring/evenring/OverallIsOverloadedPinLaw -/
def k1 : Class := { plain "com/example/evenring/evenring/OverallIsOverloadedPinLaw" (some 0) with
  accessFlags := 49
  interfaces := #[]
  cf := some (fileOf pool1 32 #[] #[{ accessFlags := 1, nameIndex := 5, descriptorIndex := 6, attributes := #[] }, { accessFlags := 9, nameIndex := 36, descriptorIndex := 37, attributes := #[] }] 49 2 #[] #[])
  fields := #[]
  methods := #[k1m0, k1m1]
  instanceTypes := #[]
  staticTypes := #[]
  resolved := Array.replicate 46 none
  statics := none }

def pool2 : Array CpInfo := pool [(1, .methodref 2 3), (0, .class_ 4), (0, .nameAndType 5 6), (0, u "java/lang/Object"), (0, u "<init>"), (0, u "()V"), (0, .class_ 8), (0, u "java/lang/Record")] 13

def k2c0 : Code := { maxStack := 1, maxLocals := 1, code := jdk_30_method_1_code, exceptionTable := #[], attributes := #[] }
def k2m0 : Method := { name := "<init>", desc := "()V", sig := { parameters := [], returnType := none }, accessFlags := 4, code := some k2c0 }
/-- java/lang/Record -/
def k2 : Class := { plain "java/lang/Record" (some 0) with
  accessFlags := 1057
  interfaces := #[]
  cf := some (fileOf pool2 7 #[] #[{ accessFlags := 4, nameIndex := 5, descriptorIndex := 6, attributes := #[] }] 1057 2 #[] #[])
  fields := #[]
  methods := #[k2m0]
  instanceTypes := #[]
  staticTypes := #[]
  resolved := Array.replicate 22 none
  statics := none }

def pool3 : Array CpInfo := pool [(1, .methodref 2 3), (0, .class_ 4), (0, .nameAndType 5 6), (0, u "java/lang/Record"), (0, u "<init>"), (0, u "()V"), (0, .fieldref 8 9), (0, .class_ 10), (0, .nameAndType 11 12), (0, u "com/example/evenring/evenring/LoadView"), (0, u "load"), (0, u "I"), (0, .fieldref 8 14), (0, .nameAndType 15 16), (0, u "successors"), (0, u "Ljava/util/List;"), (0, .fieldref 8 18), (0, .nameAndType 19 20), (0, u "mean"), (0, u "Lcom/example/evenring/evenring/LoadView$Mean;"), (2, u "(ILjava/util/List;Lcom/example/evenring/evenring/LoadView$Mean;)V"), (25, u "()I"), (27, u "()Lcom/example/evenring/evenring/LoadView$Mean;"), (3, .class_ 82), (0, u "com/example/evenring/evenring/LoadView$Reader"), (0, .class_ 84), (0, u "com/example/evenring/evenring/LoadView$Mean")] 22

def k3c0 : Code := { maxStack := 2, maxLocals := 4, code := prog_31_method_1_code, exceptionTable := #[], attributes := #[] }
def k3m0 : Method := { name := "<init>", desc := "(ILjava/util/List;Lcom/example/evenring/evenring/LoadView$Mean;)V", sig := { parameters := [.int, (.object "java/util/List"), (.object "com/example/evenring/evenring/LoadView$Mean")], returnType := none }, accessFlags := 0, code := some k3c0 }
def k3c1 : Code := { maxStack := 1, maxLocals := 1, code := prog_31_method_7_code, exceptionTable := #[], attributes := #[] }
def k3m1 : Method := { name := "load", desc := "()I", sig := { parameters := [], returnType := some .int }, accessFlags := 1, code := some k3c1 }
def k3c2 : Code := { maxStack := 1, maxLocals := 1, code := prog_31_method_9_code, exceptionTable := #[], attributes := #[] }
def k3m2 : Method := { name := "mean", desc := "()Lcom/example/evenring/evenring/LoadView$Mean;", sig := { parameters := [], returnType := some (.object "com/example/evenring/evenring/LoadView$Mean") }, accessFlags := 1, code := some k3c2 }
/-- com/example/evenring/evenring/LoadView -/
def k3 : Class := { plain "com/example/evenring/evenring/LoadView" (some 2) with
  accessFlags := 48
  interfaces := #[]
  cf := some (fileOf pool3 8 #[.nestMembers #[81, 83]] #[{ accessFlags := 0, nameIndex := 5, descriptorIndex := 23, attributes := #[] }, { accessFlags := 1, nameIndex := 11, descriptorIndex := 49, attributes := #[] }, { accessFlags := 1, nameIndex := 19, descriptorIndex := 77, attributes := #[] }] 48 2 #[] #[{ accessFlags := 18, nameIndex := 11, descriptorIndex := 12, attributes := #[] }, { accessFlags := 18, nameIndex := 15, descriptorIndex := 16, attributes := #[] }, { accessFlags := 18, nameIndex := 19, descriptorIndex := 20, attributes := #[] }])
  fields := #[{ name := "load", type := .int, accessFlags := 18, slot := 0, constantValue := 0 }, { name := "successors", type := (.object "java/util/List"), accessFlags := 18, slot := 1, constantValue := 0 }, { name := "mean", type := (.object "com/example/evenring/evenring/LoadView$Mean"), accessFlags := 18, slot := 2, constantValue := 0 }]
  methods := #[k3m0, k3m1, k3m2]
  instanceTypes := #[.int, (.object "java/util/List"), (.object "com/example/evenring/evenring/LoadView$Mean")]
  staticTypes := #[]
  resolved := Array.replicate 107 none
  statics := none }

def pool4 : Array CpInfo := pool [(8, .class_ 10), (1, u "java/lang/Iterable"), (24, .class_ 36), (0, u "java/lang/Object")] 25

/-- java/lang/Iterable -/
def k4 : Class := { plain "java/lang/Iterable" (some 0) with
  accessFlags := 1537
  interfaces := #[]
  cf := some (fileOf pool4 8 #[] #[] 1537 35 #[] #[])
  fields := #[]
  methods := #[]
  instanceTypes := #[]
  staticTypes := #[]
  resolved := Array.replicate 62 none
  statics := none }

def pool5 : Array CpInfo := pool [(10, .class_ 12), (1, u "java/util/Collection"), (47, .class_ 61), (0, u "java/lang/Object"), (0, .class_ 63), (0, u "java/lang/Iterable")] 51

/-- java/util/Collection -/
def k5 : Class := { plain "java/util/Collection" (some 0) with
  accessFlags := 1537
  interfaces := #[4]
  cf := some (fileOf pool5 10 #[] #[] 1537 60 #[62] #[])
  fields := #[]
  methods := #[]
  instanceTypes := #[]
  staticTypes := #[]
  resolved := Array.replicate 115 none
  statics := none }

def pool6 : Array CpInfo := pool [(1, .methodref 2 3), (0, .class_ 4), (0, .nameAndType 5 6), (0, u "java/lang/Object"), (0, u "<init>"), (0, u "()V"), (1, .class_ 10), (1, u "java/util/AbstractCollection"), (66, .class_ 78), (0, u "java/util/Collection")] 81

def k6c0 : Code := { maxStack := 1, maxLocals := 1, code := jdk_22_method_1_code, exceptionTable := #[], attributes := #[] }
def k6m0 : Method := { name := "<init>", desc := "()V", sig := { parameters := [], returnType := none }, accessFlags := 4, code := some k6c0 }
/-- java/util/AbstractCollection -/
def k6 : Class := { plain "java/util/AbstractCollection" (some 0) with
  accessFlags := 1057
  interfaces := #[5]
  cf := some (fileOf pool6 8 #[] #[{ accessFlags := 4, nameIndex := 5, descriptorIndex := 6, attributes := #[] }] 1057 2 #[77] #[])
  fields := #[]
  methods := #[k6m0]
  instanceTypes := #[]
  staticTypes := #[]
  resolved := Array.replicate 160 none
  statics := none }

def pool7 : Array CpInfo := pool [(8, .class_ 10), (1, u "java/util/SequencedCollection"), (15, .class_ 27), (0, u "java/lang/Object"), (0, .class_ 29), (0, u "java/util/Collection")] 27

/-- java/util/SequencedCollection -/
def k7 : Class := { plain "java/util/SequencedCollection" (some 0) with
  accessFlags := 1537
  interfaces := #[5]
  cf := some (fileOf pool7 8 #[] #[] 1537 26 #[28] #[])
  fields := #[]
  methods := #[]
  instanceTypes := #[]
  staticTypes := #[]
  resolved := Array.replicate 57 none
  statics := none }

def pool8 : Array CpInfo := pool [(8, .class_ 10), (1, u "java/util/List"), (92, .class_ 104), (0, u "java/lang/Object"), (15, .class_ 121), (0, u "java/util/SequencedCollection")] 129

/-- java/util/List -/
def k8 : Class := { plain "java/util/List" (some 0) with
  accessFlags := 1537
  interfaces := #[7]
  cf := some (fileOf pool8 8 #[] #[] 1537 103 #[120] #[])
  fields := #[]
  methods := #[]
  instanceTypes := #[]
  staticTypes := #[]
  resolved := Array.replicate 251 none
  statics := none }

def pool9 : Array CpInfo := pool [(1, .methodref 2 3), (0, .class_ 4), (0, .nameAndType 5 6), (0, u "java/util/AbstractCollection"), (0, u "<init>"), (0, u "()V"), (0, .fieldref 8 9), (0, .class_ 10), (0, .nameAndType 11 12), (0, u "java/util/AbstractList"), (0, u "modCount"), (0, u "I"), (64, .class_ 78), (0, u "java/util/AbstractList$Itr"), (3, .class_ 83), (0, u "java/util/AbstractList$ListItr"), (9, .class_ 94), (0, u "java/util/AbstractList$RandomAccessSubList"), (3, .class_ 99), (0, u "java/util/AbstractList$SubList"), (33, .class_ 134), (0, u "java/util/List"), (73, .class_ 209), (0, u "java/util/AbstractList$SubList$1"), (0, .class_ 211), (0, u "java/util/AbstractList$RandomAccessSpliterator")] 6

def k9c0 : Code := { maxStack := 2, maxLocals := 1, code := jdk_39_method_1_code, exceptionTable := #[], attributes := #[] }
def k9m0 : Method := { name := "<init>", desc := "()V", sig := { parameters := [], returnType := none }, accessFlags := 4, code := some k9c0 }
/-- java/util/AbstractList -/
def k9 : Class := { plain "java/util/AbstractList" (some 6) with
  accessFlags := 1057
  interfaces := #[8]
  cf := some (fileOf pool9 8 #[.nestMembers #[93, 98, 208, 210, 82, 77]] #[{ accessFlags := 4, nameIndex := 5, descriptorIndex := 6, attributes := #[] }] 1057 2 #[133] #[{ accessFlags := 132, nameIndex := 11, descriptorIndex := 12, attributes := #[] }])
  fields := #[{ name := "modCount", type := .int, accessFlags := 132, slot := 0, constantValue := 0 }]
  methods := #[k9m0]
  instanceTypes := #[.int]
  staticTypes := #[]
  resolved := Array.replicate 218 none
  statics := none }

def pool10 : Array CpInfo := pool [(1, .class_ 2), (0, u "java/util/RandomAccess"), (0, .class_ 4), (0, u "java/lang/Object")] 2

/-- java/util/RandomAccess -/
def k10 : Class := { plain "java/util/RandomAccess" (some 0) with
  accessFlags := 1537
  interfaces := #[]
  cf := some (fileOf pool10 1 #[] #[] 1537 3 #[] #[])
  fields := #[]
  methods := #[]
  instanceTypes := #[]
  staticTypes := #[]
  resolved := Array.replicate 7 none
  statics := none }

def pool11 : Array CpInfo := pool [(1, .class_ 2), (0, u "java/lang/Cloneable"), (0, .class_ 4), (0, u "java/lang/Object")] 2

/-- java/lang/Cloneable -/
def k11 : Class := { plain "java/lang/Cloneable" (some 0) with
  accessFlags := 1537
  interfaces := #[]
  cf := some (fileOf pool11 1 #[] #[] 1537 3 #[] #[])
  fields := #[]
  methods := #[]
  instanceTypes := #[]
  staticTypes := #[]
  resolved := Array.replicate 7 none
  statics := none }

def pool12 : Array CpInfo := pool [(1, .class_ 2), (0, u "java/io/Serializable"), (0, .class_ 4), (0, u "java/lang/Object")] 2

/-- java/io/Serializable -/
def k12 : Class := { plain "java/io/Serializable" (some 0) with
  accessFlags := 1537
  interfaces := #[]
  cf := some (fileOf pool12 1 #[] #[] 1537 3 #[] #[])
  fields := #[]
  methods := #[]
  instanceTypes := #[]
  staticTypes := #[]
  resolved := Array.replicate 7 none
  statics := none }

def pool13 : Array CpInfo := pool [(1, .methodref 2 3), (0, .class_ 4), (0, .nameAndType 5 6), (0, u "java/util/AbstractList"), (0, u "<init>"), (0, u "()V"), (2, .fieldref 10 11), (0, .class_ 12), (0, .nameAndType 13 14), (0, u "java/util/ArrayList"), (0, u "elementData"), (0, u "[Ljava/lang/Object;"), (2, u "EMPTY_ELEMENTDATA"), (21, .fieldref 10 40), (0, .nameAndType 41 14), (0, u "DEFAULTCAPACITY_EMPTY_ELEMENTDATA"), (8, u "size"), (0, u "I"), (96, .class_ 149), (0, u "java/util/List"), (112, .class_ 263), (0, u "java/util/ArrayList$ListItr"), (3, .class_ 268), (0, u "java/util/ArrayList$Itr"), (7, .class_ 277), (0, u "java/util/ArrayList$SubList"), (12, .class_ 291), (0, u "java/util/ArrayList$ArrayListSpliterator"), (37, .class_ 330), (0, u "java/util/RandomAccess"), (0, .class_ 332), (0, u "java/lang/Cloneable"), (0, .class_ 334), (0, u "java/io/Serializable"), (0, u "serialVersionUID"), (0, u "J"), (3, u "DEFAULT_CAPACITY"), (159, .class_ 501), (0, u "java/util/ArrayList$SubList$2"), (0, .class_ 503), (0, u "java/util/ArrayList$SubList$1")] 5

def k13c0 : Code := { maxStack := 2, maxLocals := 1, code := jdk_38_method_2_code, exceptionTable := #[], attributes := #[] }
def k13m0 : Method := { name := "<init>", desc := "()V", sig := { parameters := [], returnType := none }, accessFlags := 1, code := some k13c0 }
/-- java/util/ArrayList -/
def k13 : Class := { plain "java/util/ArrayList" (some 9) with
  accessFlags := 33
  interfaces := #[8, 10, 11, 12]
  cf := some (fileOf pool13 10 #[.nestMembers #[290, 276, 500, 502, 262, 267]] #[{ accessFlags := 1, nameIndex := 5, descriptorIndex := 6, attributes := #[] }] 33 2 #[148, 329, 331, 333] #[{ accessFlags := 26, nameIndex := 335, descriptorIndex := 336, attributes := #[] }, { accessFlags := 26, nameIndex := 340, descriptorIndex := 51, attributes := #[] }, { accessFlags := 26, nameIndex := 17, descriptorIndex := 14, attributes := #[] }, { accessFlags := 26, nameIndex := 41, descriptorIndex := 14, attributes := #[] }, { accessFlags := 128, nameIndex := 13, descriptorIndex := 14, attributes := #[] }, { accessFlags := 2, nameIndex := 50, descriptorIndex := 51, attributes := #[] }])
  fields := #[{ name := "serialVersionUID", type := .long, accessFlags := 26, slot := 0, constantValue := 0 }, { name := "DEFAULT_CAPACITY", type := .int, accessFlags := 26, slot := 1, constantValue := 0 }, { name := "EMPTY_ELEMENTDATA", type := (.array (.object "java/lang/Object")), accessFlags := 26, slot := 2, constantValue := 0 }, { name := "DEFAULTCAPACITY_EMPTY_ELEMENTDATA", type := (.array (.object "java/lang/Object")), accessFlags := 26, slot := 3, constantValue := 0 }, { name := "elementData", type := (.array (.object "java/lang/Object")), accessFlags := 128, slot := 1, constantValue := 0 }, { name := "size", type := .int, accessFlags := 2, slot := 2, constantValue := 0 }]
  methods := #[k13m0]
  instanceTypes := #[.int, (.array (.object "java/lang/Object")), .int]
  staticTypes := #[.long, .int, (.array (.object "java/lang/Object")), (.array (.object "java/lang/Object"))]
  resolved := Array.replicate 509 none
  statics := some 0 }

def pool14 : Array CpInfo := pool [(1, .methodref 2 3), (0, .class_ 4), (0, .nameAndType 5 6), (0, u "java/lang/Record"), (0, u "<init>"), (0, u "()V"), (0, .fieldref 8 9), (0, .class_ 10), (0, .nameAndType 11 12), (0, u "com/example/evenring/evenring/LoadView$Mean"), (0, u "load"), (0, u "D"), (0, .fieldref 8 14), (0, .nameAndType 15 12), (0, u "peers"), (12, u "(DD)V"), (6, u "()D"), (3, .class_ 40), (0, u "com/example/evenring/evenring/LoadView")] 20

def k14c0 : Code := { maxStack := 3, maxLocals := 5, code := prog_32_method_1_code, exceptionTable := #[], attributes := #[] }
def k14m0 : Method := { name := "<init>", desc := "(DD)V", sig := { parameters := [.double, .double], returnType := none }, accessFlags := 0, code := some k14c0 }
def k14c1 : Code := { maxStack := 2, maxLocals := 1, code := prog_32_method_5_code, exceptionTable := #[], attributes := #[] }
def k14m1 : Method := { name := "load", desc := "()D", sig := { parameters := [], returnType := some .double }, accessFlags := 1, code := some k14c1 }
def k14c2 : Code := { maxStack := 2, maxLocals := 1, code := prog_32_method_6_code, exceptionTable := #[], attributes := #[] }
def k14m2 : Method := { name := "peers", desc := "()D", sig := { parameters := [], returnType := some .double }, accessFlags := 1, code := some k14c2 }
/-- com/example/evenring/evenring/LoadView$Mean -/
def k14 : Class := { plain "com/example/evenring/evenring/LoadView$Mean" (some 2) with
  accessFlags := 48
  interfaces := #[]
  cf := some (fileOf pool14 8 #[.nestHost 39] #[{ accessFlags := 0, nameIndex := 5, descriptorIndex := 28, attributes := #[] }, { accessFlags := 1, nameIndex := 11, descriptorIndex := 35, attributes := #[] }, { accessFlags := 1, nameIndex := 15, descriptorIndex := 35, attributes := #[] }] 48 2 #[] #[{ accessFlags := 18, nameIndex := 11, descriptorIndex := 12, attributes := #[] }, { accessFlags := 18, nameIndex := 15, descriptorIndex := 12, attributes := #[] }])
  fields := #[{ name := "load", type := .double, accessFlags := 18, slot := 0, constantValue := 0 }, { name := "peers", type := .double, accessFlags := 18, slot := 1, constantValue := 0 }]
  methods := #[k14m0, k14m1, k14m2]
  instanceTypes := #[.double, .double]
  staticTypes := #[]
  resolved := Array.replicate 61 none
  statics := none }

def pool15 : Array CpInfo := pool [(1, .class_ 2), (0, u "com/example/evenring/evenring/LoadView$Reader"), (0, .class_ 4), (0, u "java/lang/Object"), (9, .class_ 15), (0, u "com/example/evenring/evenring/LoadView")] 2

/-- com/example/evenring/evenring/LoadView$Reader -/
def k15 : Class := { plain "com/example/evenring/evenring/LoadView$Reader" (some 0) with
  accessFlags := 1536
  interfaces := #[]
  cf := some (fileOf pool15 1 #[.nestHost 14] #[] 1536 3 #[] #[])
  fields := #[]
  methods := #[]
  instanceTypes := #[]
  staticTypes := #[]
  resolved := Array.replicate 18 none
  statics := none }

def pool16 : Array CpInfo := pool [(1, .class_ 2), (0, u "com/example/evenring/evenring/LoadState"), (0, .class_ 4), (0, u "java/lang/Object"), (0, .class_ 6), (0, u "com/example/evenring/evenring/LoadView$Reader"), (5, .class_ 13), (0, u "com/example/evenring/evenring/LoadState$Overall"), (0, .class_ 15), (0, u "com/example/evenring/evenring/LoadState$Local"), (0, .class_ 17), (0, u "com/example/evenring/evenring/LoadState$Threshold"), (0, .class_ 19), (0, u "com/example/evenring/evenring/LoadState$None")] 9

/-- com/example/evenring/evenring/LoadState -/
def k16 : Class := { plain "com/example/evenring/evenring/LoadState" (some 0) with
  accessFlags := 1536
  interfaces := #[15]
  cf := some (fileOf pool16 1 #[.nestMembers #[12, 14, 16, 18]] #[] 1536 3 #[5] #[])
  fields := #[]
  methods := #[]
  instanceTypes := #[]
  staticTypes := #[]
  resolved := Array.replicate 29 none
  statics := none }

def pool17 : Array CpInfo := pool [(1, .methodref 2 3), (0, .class_ 4), (0, .nameAndType 5 6), (0, u "java/lang/Record"), (0, u "<init>"), (0, u "()V"), (0, .fieldref 8 9), (0, .class_ 10), (0, .nameAndType 11 12), (0, u "com/example/evenring/evenring/LoadState$Overall"), (0, u "factor"), (0, u "I"), (0, .methodref 14 15), (0, .class_ 16), (0, .nameAndType 17 18), (0, u "com/example/evenring/evenring/LoadView"), (0, u "mean"), (0, u "()Lcom/example/evenring/evenring/LoadView$Mean;"), (0, .methodref 14 20), (0, .nameAndType 21 22), (0, u "load"), (0, u "()I"), (0, .methodref 24 25), (0, .class_ 26), (0, .nameAndType 27 28), (0, u "com/example/evenring/evenring/LoadView$Mean"), (0, u "peers"), (0, u "()D"), (0, .methodref 24 30), (0, .nameAndType 21 28), (12, .class_ 44), (0, u "com/example/evenring/evenring/LoadState"), (0, u "(I)V"), (5, u "isOverloaded"), (0, u "(Lcom/example/evenring/evenring/LoadView;)Z")] 25

def k17c0 : Code := { maxStack := 2, maxLocals := 2, code := prog_29_method_1_code, exceptionTable := #[], attributes := #[] }
def k17m0 : Method := { name := "<init>", desc := "(I)V", sig := { parameters := [.int], returnType := none }, accessFlags := 1, code := some k17c0 }
def k17c1 : Code := { maxStack := 6, maxLocals := 3, code := prog_29_method_3_code, exceptionTable := #[], attributes := #[] }
def k17m1 : Method := { name := "isOverloaded", desc := "(Lcom/example/evenring/evenring/LoadView;)Z", sig := { parameters := [(.object "com/example/evenring/evenring/LoadView")], returnType := some .boolean }, accessFlags := 1, code := some k17c1 }
/-- com/example/evenring/evenring/LoadState$Overall -/
def k17 : Class := { plain "com/example/evenring/evenring/LoadState$Overall" (some 2) with
  accessFlags := 49
  interfaces := #[16]
  cf := some (fileOf pool17 8 #[.nestHost 43] #[{ accessFlags := 1, nameIndex := 5, descriptorIndex := 45, attributes := #[] }, { accessFlags := 1, nameIndex := 51, descriptorIndex := 52, attributes := #[] }] 49 2 #[43] #[{ accessFlags := 18, nameIndex := 11, descriptorIndex := 12, attributes := #[] }])
  fields := #[{ name := "factor", type := .int, accessFlags := 18, slot := 0, constantValue := 0 }]
  methods := #[k17m0, k17m1]
  instanceTypes := #[.int]
  staticTypes := #[]
  resolved := Array.replicate 78 none
  statics := none }

/-- the primitive byte -/
def k18 : Class := { plain "byte" none with kind := .primitive 'B', accessFlags := 0x411 }
/-- [B -/
def k19 : Class := { plain "[B" (some 0) with kind := .array 18 .byte, interfaces := #[11, 12], accessFlags := 1041 }

/-- the primitive int -/
def k20 : Class := { plain "int" none with kind := .primitive 'I', accessFlags := 0x411 }
/-- [I -/
def k21 : Class := { plain "[I" (some 0) with kind := .array 20 .int, interfaces := #[11, 12], accessFlags := 1041 }

/-- [Ljava/lang/Object; -/
def k22 : Class := { plain "[Ljava/lang/Object;" (some 0) with kind := .array 0 (.object "java/lang/Object"), interfaces := #[11, 12], accessFlags := 1041 }

def heap : Heap := #[{ cls := 13, slots := #[.long 0, .int 0, .ref 1, .ref 2], vm := .statics 13 },
  { cls := 22, slots := #[], vm := .none },
  { cls := 22, slots := #[], vm := .none }]
def classes : Array Class := #[k0, k1, k2, k3, k4, k5, k6, k7, k8, k9, k10, k11, k12, k13, k14, k15, k16, k17, k18, k19, k20, k21, k22]
def interned : List (Array UInt16 × Addr) := []
def slotsUsed : Nat := 4
def theMethod : MethodId := ⟨1, 1⟩
def args0 : Array Value := #[.int 5, .int 7, .int 300, .int 9]
def aboutOver (below : List Frame) : State where
  vm := { classes := classes, interned := interned.toArray }
  heap := heap
  slotsUsed := slotsUsed
  threads := #[{ frames := .invoking theMethod args0 :: below }]
def below0 : List Frame := [.native { method := ⟨0, 0⟩, args := #[] }]
def about1 : State := aboutOver below0
def p0 : Program := .bare "" "" ""
def e0 : Env := launch0.env 0 0 0
theorem w_frames : about1.frames = Frame.invoking theMethod args0 :: below0 := rfl
set_option maxRecDepth 65536 in
theorem w_args : argsFit about1.vm theMethod args0 = true := by decide +kernel
set_option maxRecDepth 65536 in
theorem w_heap : heapFits about1 = true := by decide +kernel
set_option maxRecDepth 65536 in
theorem w_runnable : about1.curStatus? = some .runnable := by decide +kernel
set_option maxRecDepth 65536 in
theorem w_alone : about1.alone = true := by decide +kernel
set_option maxRecDepth 65536 in
theorem w_named : about1.methodNamed? x = some theMethod := by decide +kernel
set_option maxRecDepth 65536 in
theorem w_hears : about1.hears theMethod below0 = true := by decide +kernel
set_option maxRecDepth 65536 in
theorem w_ripe : about1.ripe theMethod args0 below0 = true := by decide +kernel
theorem w_running : about1.status = .running := rfl
set_option maxRecDepth 65536 in
theorem w_room : about1.hasRoom e0.platform room_1 = true :=
  launch0.hasRoom_least _ room_1 (by decide +kernel) (by decide +kernel) (by decide +kernel) (by decide +kernel) (by decide +kernel) (by decide +kernel)
theorem allAtoms_all (ts : List Jvm.Cond) (a : Array Jvm.Value) (st : Jvm.State) : (allAtoms ts).before a st = ts.all (fun c => c.before a st) := by
  induction ts with
  | nil => rfl
  | cons c t ih =>
    show (Jvm.Cond.and c (allAtoms t)).before a st = _
    rw [Jvm.Cond.before_and, ih, List.all_cons]
def words1 : List Jvm.Cond := Jvm.Cond.code x code maxLocals ret :: tables_1
/-- a 'code' word, met by the world's own term for the bytes: nothing is compared byte by byte -/
theorem code_word {y : MethodName} {bytes : ByteArray} {mx : Nat} {rt : Option FieldType} {a : Array Value} {s : State} {m : MethodId} {meth : Method} {c : Code} (h1 : s.methodNamed? y = some m) (h2 : s.vm.method? m = some meth) (h3 : meth.code = some c) (h4 : c.code = bytes)
    (h5 : (c.maxLocals == mx && c.exceptionTable.isEmpty && decide (c.maxStack ≤ mostOperands) && decide (meth.sig.returnType = rt) && !meth.locks && decide (parseMethodDescriptor y.desc = some meth.sig)) = true) : (Jvm.Cond.code y bytes mx rt).before a s = true := by
  simp only [Bool.and_eq_true, beq_iff_eq, Bool.not_eq_true', decide_eq_true_eq] at h5
  obtain ⟨⟨⟨⟨⟨g1, g2⟩, g3⟩, g4⟩, g5⟩, g6⟩ := h5
  simp [Cond.before, Cond.holds, Cond.value, h1, h2, h3, h4, g1, g2, g3, g4, g5, g6]
def isCode : Jvm.Cond → Bool
  | .code _ _ _ _ => true
  | _ => false
theorem all_split {L : List Jvm.Cond} {P : Jvm.Cond → Bool} (h1 : L.all (fun c => isCode c || P c) = true) (h2 : ∀ c ∈ L.filter isCode, P c = true) : L.all P = true := by
  refine List.all_eq_true.mpr fun c hc => ?_
  have h := List.all_eq_true.mp h1 c hc
  rcases Bool.eq_false_or_eq_true (isCode c) with hi | hi
  · exact h2 c (List.mem_filter.mpr ⟨hc, hi⟩)
  · simpa [hi] using h
set_option maxRecDepth 65536 in
theorem w_c0 : (Jvm.Cond.code x code maxLocals ret).before args0 about1 = true := code_word (m := ⟨1, 1⟩) (meth := k1m1) (c := k1c1) (by decide +kernel) rfl rfl rfl (by decide +kernel)
set_option maxRecDepth 65536 in
theorem w_c1 : (Jvm.Cond.code ({ cls := "java/util/ArrayList", name := "<init>", desc := "()V" } : Jvm.MethodName) jdk_38_method_2_code (1 : Nat) (Option.none : Option Jvm.ClassFile.FieldType)).before args0 about1 = true := code_word (m := ⟨13, 0⟩) (meth := k13m0) (c := k13c0) (by decide +kernel) rfl rfl rfl (by decide +kernel)
set_option maxRecDepth 65536 in
theorem w_c2 : (Jvm.Cond.code ({ cls := "java/util/AbstractList", name := "<init>", desc := "()V" } : Jvm.MethodName) jdk_39_method_1_code (1 : Nat) (Option.none : Option Jvm.ClassFile.FieldType)).before args0 about1 = true := code_word (m := ⟨9, 0⟩) (meth := k9m0) (c := k9c0) (by decide +kernel) rfl rfl rfl (by decide +kernel)
set_option maxRecDepth 65536 in
theorem w_c3 : (Jvm.Cond.code ({ cls := "java/util/AbstractCollection", name := "<init>", desc := "()V" } : Jvm.MethodName) jdk_22_method_1_code (1 : Nat) (Option.none : Option Jvm.ClassFile.FieldType)).before args0 about1 = true := code_word (m := ⟨6, 0⟩) (meth := k6m0) (c := k6c0) (by decide +kernel) rfl rfl rfl (by decide +kernel)
set_option maxRecDepth 65536 in
theorem w_c4 : (Jvm.Cond.code ({ cls := "java/lang/Object", name := "<init>", desc := "()V" } : Jvm.MethodName) object_method_1_code (1 : Nat) (Option.none : Option Jvm.ClassFile.FieldType)).before args0 about1 = true := code_word (m := ⟨0, 0⟩) (meth := k0m0) (c := k0c0) (by decide +kernel) rfl rfl rfl (by decide +kernel)
set_option maxRecDepth 65536 in
theorem w_c5 : (Jvm.Cond.code ({ cls := "com/example/evenring/evenring/LoadView$Mean", name := "<init>", desc := "(DD)V" } : Jvm.MethodName) prog_32_method_1_code (5 : Nat) (Option.none : Option Jvm.ClassFile.FieldType)).before args0 about1 = true := code_word (m := ⟨14, 0⟩) (meth := k14m0) (c := k14c0) (by decide +kernel) rfl rfl rfl (by decide +kernel)
set_option maxRecDepth 65536 in
theorem w_c6 : (Jvm.Cond.code ({ cls := "java/lang/Record", name := "<init>", desc := "()V" } : Jvm.MethodName) jdk_30_method_1_code (1 : Nat) (Option.none : Option Jvm.ClassFile.FieldType)).before args0 about1 = true := code_word (m := ⟨2, 0⟩) (meth := k2m0) (c := k2c0) (by decide +kernel) rfl rfl rfl (by decide +kernel)
set_option maxRecDepth 65536 in
theorem w_c7 : (Jvm.Cond.code ({ cls := "com/example/evenring/evenring/LoadView", name := "<init>", desc := "(ILjava/util/List;Lcom/example/evenring/evenring/LoadView$Mean;)V" } : Jvm.MethodName) prog_31_method_1_code (4 : Nat) (Option.none : Option Jvm.ClassFile.FieldType)).before args0 about1 = true := code_word (m := ⟨3, 0⟩) (meth := k3m0) (c := k3c0) (by decide +kernel) rfl rfl rfl (by decide +kernel)
set_option maxRecDepth 65536 in
theorem w_c8 : (Jvm.Cond.code ({ cls := "com/example/evenring/evenring/LoadState$Overall", name := "<init>", desc := "(I)V" } : Jvm.MethodName) prog_29_method_1_code (2 : Nat) (Option.none : Option Jvm.ClassFile.FieldType)).before args0 about1 = true := code_word (m := ⟨17, 0⟩) (meth := k17m0) (c := k17c0) (by decide +kernel) rfl rfl rfl (by decide +kernel)
set_option maxRecDepth 65536 in
theorem w_c9 : (Jvm.Cond.code ({ cls := "com/example/evenring/evenring/LoadState$Overall", name := "isOverloaded", desc := "(Lcom/example/evenring/evenring/LoadView;)Z" } : Jvm.MethodName) prog_29_method_3_code (3 : Nat) (Option.some Jvm.ClassFile.FieldType.boolean)).before args0 about1 = true := code_word (m := ⟨17, 1⟩) (meth := k17m1) (c := k17c1) (by decide +kernel) rfl rfl rfl (by decide +kernel)
set_option maxRecDepth 65536 in
theorem w_c10 : (Jvm.Cond.code ({ cls := "com/example/evenring/evenring/LoadView", name := "mean", desc := "()Lcom/example/evenring/evenring/LoadView$Mean;" } : Jvm.MethodName) prog_31_method_9_code (1 : Nat) (Option.some (Jvm.ClassFile.FieldType.object "com/example/evenring/evenring/LoadView$Mean"))).before args0 about1 = true := code_word (m := ⟨3, 2⟩) (meth := k3m2) (c := k3c2) (by decide +kernel) rfl rfl rfl (by decide +kernel)
set_option maxRecDepth 65536 in
theorem w_c11 : (Jvm.Cond.code ({ cls := "com/example/evenring/evenring/LoadView", name := "load", desc := "()I" } : Jvm.MethodName) prog_31_method_7_code (1 : Nat) (Option.some Jvm.ClassFile.FieldType.int)).before args0 about1 = true := code_word (m := ⟨3, 1⟩) (meth := k3m1) (c := k3c1) (by decide +kernel) rfl rfl rfl (by decide +kernel)
set_option maxRecDepth 65536 in
theorem w_c12 : (Jvm.Cond.code ({ cls := "com/example/evenring/evenring/LoadView$Mean", name := "peers", desc := "()D" } : Jvm.MethodName) prog_32_method_6_code (1 : Nat) (Option.some Jvm.ClassFile.FieldType.double)).before args0 about1 = true := code_word (m := ⟨14, 2⟩) (meth := k14m2) (c := k14c2) (by decide +kernel) rfl rfl rfl (by decide +kernel)
set_option maxRecDepth 65536 in
theorem w_c13 : (Jvm.Cond.code ({ cls := "com/example/evenring/evenring/LoadView$Mean", name := "load", desc := "()D" } : Jvm.MethodName) prog_32_method_5_code (1 : Nat) (Option.some Jvm.ClassFile.FieldType.double)).before args0 about1 = true := code_word (m := ⟨14, 1⟩) (meth := k14m1) (c := k14c1) (by decide +kernel) rfl rfl rfl (by decide +kernel)
def codes1 : List Jvm.Cond := [Jvm.Cond.code x code maxLocals ret, Jvm.Cond.code ({ cls := "java/util/ArrayList", name := "<init>", desc := "()V" } : Jvm.MethodName) jdk_38_method_2_code (1 : Nat) (Option.none : Option Jvm.ClassFile.FieldType), Jvm.Cond.code ({ cls := "java/util/AbstractList", name := "<init>", desc := "()V" } : Jvm.MethodName) jdk_39_method_1_code (1 : Nat) (Option.none : Option Jvm.ClassFile.FieldType), Jvm.Cond.code ({ cls := "java/util/AbstractCollection", name := "<init>", desc := "()V" } : Jvm.MethodName) jdk_22_method_1_code (1 : Nat) (Option.none : Option Jvm.ClassFile.FieldType), Jvm.Cond.code ({ cls := "java/lang/Object", name := "<init>", desc := "()V" } : Jvm.MethodName) object_method_1_code (1 : Nat) (Option.none : Option Jvm.ClassFile.FieldType), Jvm.Cond.code ({ cls := "com/example/evenring/evenring/LoadView$Mean", name := "<init>", desc := "(DD)V" } : Jvm.MethodName) prog_32_method_1_code (5 : Nat) (Option.none : Option Jvm.ClassFile.FieldType), Jvm.Cond.code ({ cls := "java/lang/Record", name := "<init>", desc := "()V" } : Jvm.MethodName) jdk_30_method_1_code (1 : Nat) (Option.none : Option Jvm.ClassFile.FieldType), Jvm.Cond.code ({ cls := "com/example/evenring/evenring/LoadView", name := "<init>", desc := "(ILjava/util/List;Lcom/example/evenring/evenring/LoadView$Mean;)V" } : Jvm.MethodName) prog_31_method_1_code (4 : Nat) (Option.none : Option Jvm.ClassFile.FieldType), Jvm.Cond.code ({ cls := "com/example/evenring/evenring/LoadState$Overall", name := "<init>", desc := "(I)V" } : Jvm.MethodName) prog_29_method_1_code (2 : Nat) (Option.none : Option Jvm.ClassFile.FieldType), Jvm.Cond.code ({ cls := "com/example/evenring/evenring/LoadState$Overall", name := "isOverloaded", desc := "(Lcom/example/evenring/evenring/LoadView;)Z" } : Jvm.MethodName) prog_29_method_3_code (3 : Nat) (Option.some Jvm.ClassFile.FieldType.boolean), Jvm.Cond.code ({ cls := "com/example/evenring/evenring/LoadView", name := "mean", desc := "()Lcom/example/evenring/evenring/LoadView$Mean;" } : Jvm.MethodName) prog_31_method_9_code (1 : Nat) (Option.some (Jvm.ClassFile.FieldType.object "com/example/evenring/evenring/LoadView$Mean")), Jvm.Cond.code ({ cls := "com/example/evenring/evenring/LoadView", name := "load", desc := "()I" } : Jvm.MethodName) prog_31_method_7_code (1 : Nat) (Option.some Jvm.ClassFile.FieldType.int), Jvm.Cond.code ({ cls := "com/example/evenring/evenring/LoadView$Mean", name := "peers", desc := "()D" } : Jvm.MethodName) prog_32_method_6_code (1 : Nat) (Option.some Jvm.ClassFile.FieldType.double), Jvm.Cond.code ({ cls := "com/example/evenring/evenring/LoadView$Mean", name := "load", desc := "()D" } : Jvm.MethodName) prog_32_method_5_code (1 : Nat) (Option.some Jvm.ClassFile.FieldType.double)]
set_option maxRecDepth 65536 in
theorem codes_eq : words1.filter isCode = codes1 := rfl
theorem w_codes : ∀ c ∈ words1.filter isCode, c.before args0 about1 = true := by
  rw [codes_eq]
  intro c hc
  simp only [codes1, List.mem_cons, List.not_mem_nil, or_false] at hc
  rcases hc with rfl | rfl | rfl | rfl | rfl | rfl | rfl | rfl | rfl | rfl | rfl | rfl | rfl | rfl
  · exact w_c0
  · exact w_c1
  · exact w_c2
  · exact w_c3
  · exact w_c4
  · exact w_c5
  · exact w_c6
  · exact w_c7
  · exact w_c8
  · exact w_c9
  · exact w_c10
  · exact w_c11
  · exact w_c12
  · exact w_c13
set_option maxRecDepth 65536 in
theorem w_t1 : (words1.take 24).all (fun c => isCode c || c.before args0 about1) = true := by decide +kernel
set_option maxRecDepth 65536 in
theorem w_t2 : ((words1.drop 24).take 24).all (fun c => isCode c || c.before args0 about1) = true := by decide +kernel
set_option maxRecDepth 65536 in
theorem w_t3 : (((words1.drop 24).drop 24).take 24).all (fun c => isCode c || c.before args0 about1) = true := by decide +kernel
set_option maxRecDepth 65536 in
theorem w_t4 : (((words1.drop 24).drop 24).drop 24).all (fun c => isCode c || c.before args0 about1) = true := by decide +kernel
theorem w_tables : (allAtoms (Jvm.Cond.code x code maxLocals ret :: tables_1)).before args0 about1 = true := by
  rw [allAtoms_all]
  show words1.all (fun c => c.before args0 about1) = true
  refine all_split ?_ w_codes
  rw [← List.take_append_drop 24 words1, List.all_append, w_t1, ← List.take_append_drop 24 (words1.drop 24), List.all_append, w_t2, ← List.take_append_drop 24 ((words1.drop 24).drop 24), List.all_append, w_t3, w_t4]
  rfl
set_option maxRecDepth 65536 in
theorem w_rest : rest_1_c.before args0 about1 = true := by decide +kernel
set_option maxRecDepth 65536 in
theorem w_case : (Jvm.Cond.and given_1 narrow_1).before args0 about1 = true := by decide +kernel
theorem w_applies : (headSpec (Jvm.Cond.code x code maxLocals ret :: tables_1) room_1).applies x e0.platform about1 = true :=
  (Spec.applies_iff w_frames).mpr ⟨w_running, w_runnable, w_alone, w_named, w_hears, w_ripe, w_room, w_tables⟩
theorem atStart : AtStart classFile x code maxLocals ret World_1 tables_1 room_1 Calls_1 rest_1 Pre_1 launch0 p0 e0 about1 theMethod args0 below0 :=
  ⟨lists_1, trivial, launch0.admits_env _ _ _, launch0.least_env, fairChoices_fair.cas, fairChoices_fair.clock, w_frames, w_args, w_heap, w_applies, trivial, w_rest, w_case⟩
end start1
theorem witness_1 : WitnessClaimed_1 := ⟨start1.p0, start1.e0, start1.about1, start1.theMethod, start1.args0, start1.below0, start1.atStart⟩
end Jvm.Pilot.@@N@@
