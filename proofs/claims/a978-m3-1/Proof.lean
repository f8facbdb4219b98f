import JvmDerived
import JvmDerived.Pilot.@@N@@Statement
import JvmDerived.Pilot.@@N@@Code
set_option linter.unusedVariables false
set_option linter.unusedSimpArgs false
@@BLOCK:TracedD.lean.txt@@
namespace Jvm.Pilot.@@N@@
open Jvm Jvm.ClassFile Sem Op Lib Jvm.Free Jvm.Stand Jvm.LawKit Jvm.RoadKit Bundle Jvm.Pilot.@@N@@.Jvm.D
/-- from S the run comes to a state that P allows -/
def Comes (p : Program) (e : Env) (below : List Frame) (P : State → Prop) (S : State) : Prop := ∃ S', Steps p.tables e below S S' ∧ P S'
/-- how a body ends that Q allows -/
def EndsAt (below : List Frame) (s : State) (Q : Option Value → Heap → List Loc → Prop) (kc ks : Nat) (s₂ : State) : Prop := ∃ o, s₂.status = .running ∧ Ended s₂ below o ∧ ∃ v L, o = .returned v ∧ Q v s₂.heap L ∧ FrameEnd s o s₂ L kc ks
/-- an array of ints, its content a function -/
def Ari (Z : State) (h : Heap) (a : Nat) (n : Nat) (f : Nat → Int32) : Prop := ∃ c : Cell, Arr Z h a c .int ∧ c.slots.size = n ∧ ∀ i, i < n → c.slots[i]? = some (.int (f i))
section OwnAri
variable {Z : State} {h h' : Heap} {a b n sl : Nat} {f : Nat → Int32} {v : Value} {ws : List Addr}
theorem Ari.lt (F : Ari Z h a n f) : a < h.size := by obtain ⟨c, A, -⟩ := F; exact A.lt
theorem Ari.ext (F : Ari Z h a n f) (E : Ext h h') : Ari Z h' a n f := by obtain ⟨c, A, r⟩ := F; exact ⟨c, A.ext E, r⟩
theorem Ari.other (F : Ari Z h b n f) (W : Wr h h' a sl v) (q : b ≠ a) : Ari Z h' b n f := by obtain ⟨c, A, r⟩ := F; exact ⟨c, A.other W q, r⟩
theorem Ari.keep (F : Ari Z h a n f) (K : Keep h h' ws) (q : a ∉ ws) : Ari Z h' a n f := by obtain ⟨c, A, r⟩ := F; exact ⟨c, ⟨K.2.1 a c A.1 q, A.2⟩, r⟩
theorem Ari.new {k : ClassId} {z : Int32} (A : Arr Z h a (newA k .int z) .int) (q : z.toNatClampNeg = n) : Ari Z h a n (fun _ => 0) := by
  refine ⟨_, A, by rw [sz_new, q], fun i hi => ?_⟩
  simp [newA, q, hi, defaultValue]
theorem Ari.set {c : Cell} (A : Arr Z h a c .int) (S : c.slots.size = n) (H : ∀ i, i < n → c.slots[i]? = some (.int (f i))) {j x : Int32} {k : Nat} (W : Wr h h' a j.toNatClampNeg (.int x)) (hk : j.toNatClampNeg = k) : Ari Z h' a n (fun i => if i = k then x else f i) := by
  subst hk
  refine ⟨_, A.same W, by rw [sz_set]; exact S, fun i hi => ?_⟩
  by_cases q : i = j.toNatClampNeg
  · subst q; simp [Cell.setSlot, S, hi]
  · show _ = some (Value.int (if i = j.toNatClampNeg then x else f i))
    rw [if_neg q, ← H i hi]; exact Array.getElem?_setIfInBounds_ne (fun z => q z.symm)
end OwnAri
section Own
variable {p : Program} {l : Launch} {e : Env} {R : Room} {s : State} {m : MethodId} {args : Array Value} {below : List Frame} {meth : Method} {c : Code} {T : State} {locs : List Loc} {cells slots : Nat} {Q : Option Value → Heap → List Loc → Prop} {kc ks : Nat} {P : State → Prop} {S S' : State} {h : Heap}
theorem Comes.here (q : P S) : Comes p e below P S := ⟨S, Steps.refl _, q⟩
theorem Comes.st (f : ∀ t, Steps p.tables e below S' t → Steps p.tables e below S t) (g : Comes p e below P S') : Comes p e below P S := by
  obtain ⟨s₂, h1, r⟩ := g; exact ⟨s₂, f _ h1, r⟩
theorem Comes.go (f : Steps p.tables e below S S') (g : Comes p e below P S') : Comes p e below P S := by
  obtain ⟨s₂, h1, r⟩ := g; exact ⟨s₂, f.trans h1, r⟩
theorem Comes.cast {g g' : JFrame} (q : g = g') (k : Comes p e below P (T.setTop g')) : Comes p e below P (T.setTop g) := q ▸ k
theorem Comes.out (h : Comes p e below (EndsAt below s Q kc ks) S) : ∃ s₂ o, Steps p.tables e below S s₂ ∧ s₂.status = .running ∧ Ended s₂ below o ∧ ∃ v L, o = .returned v ∧ Q v s₂.heap L ∧ FrameEnd s o s₂ L kc ks := by
  obtain ⟨s₂, h1, o, r⟩ := h; exact ⟨s₂, o, h1, r⟩
theorem Comes.fin (X : Stand p l e R s m args below meth c T locs cells slots) {v : Option Value} (hv : meth.sig.returnType = none → v = none) (hlk : meth.locks = false)
    (hs : ∀ fs, (∀ (f : JFrame) (acts : List Action), f.method = m → f.locked = none → f.entered = [] → (doReturn e (T.setTop f) acts v).1 = T.setFrames fs) → Steps p.tables e below S (T.setFrames fs))
    (eT : T.heap = h) (hq : Q v h locs) (hc : cells ≤ kc) (hl : slots ≤ ks) : Comes p e below (EndsAt below s Q kc ks) S := by
  obtain ⟨fs, hr, hrun, hended, hW, hsame⟩ := X.leave (v := v) hv hlk
  exact ⟨_, hs fs hr, _, hrun, hended, _, _, rfl, (show Q v T.heap locs from by rw [eT]; exact hq), ⟨_, rfl⟩, hW, hsame.mono hc hl⟩
theorem Comes.ret0 (X : Stand p l e R s m args below meth c T locs cells slots) (hx : p.tables.exec = Jvm.exec) {pc : Nat} {Ls : Array Slot} (hret : meth.sig.returnType = none) (hlk : meth.locks = false) (hd : decode c.code pc = .ok (.return_, 1))
    (eT : T.heap = h) (hq : Q none h locs) (hc : cells ≤ kc) (hl : slots ≤ ks) : Comes p e below (EndsAt below s Q kc ks) (T.setTop (mkF m pc Ls [])) :=
  Comes.fin X (fun _ => rfl) hlk (fun _ hr => X.returnOut hx hret hd hr) eT hq hc hl
theorem Comes.retN (X : Stand p l e R s m args below meth c T locs cells slots) (hx : p.tables.exec = Jvm.exec) {pc : Nat} {Ls : Array Slot} {z : Int32} {t : FieldType} {rest : List Value} (hret : meth.sig.returnType = some t) (ht : t = .boolean ∨ t = .byte ∨ t = .char ∨ t = .short) (hlk : meth.locks = false) (hd : decode c.code pc = .ok (.ireturn, 1))
    (eT : T.heap = h) (hq : Q (some (.int (nar t z))) h locs) (hc : cells ≤ kc) (hl : slots ≤ ks) : Comes p e below (EndsAt below s Q kc ks) (T.setTop (mkF m pc Ls (.int z :: rest))) :=
  Comes.fin X (fun q => by rw [hret] at q; cases q) hlk (fun _ hr => Jvm.RoadKit.retN X hx hret ht hd hr) eT hq hc hl
theorem Comes.retV (X : Stand p l e R s m args below meth c T locs cells slots) (hx : p.tables.exec = Jvm.exec) {pc : Nat} {Ls : Array Slot} {w : Value} {t : FieldType} {i : Instr} {rest : List Value} (hret : meth.sig.returnType = some t) (hn : narrow t w = w)
    (hi : (i = .ireturn ∧ (t = .int ∨ t = .boolean ∨ t = .byte ∨ t = .char ∨ t = .short) ∧ ∃ z, w = .int z) ∨ (i = .lreturn ∧ t = .long ∧ ∃ z, w = .long z) ∨ (i = .dreturn ∧ t = .double ∧ ∃ z, w = .double z) ∨ (i = .freturn ∧ t = .float ∧ ∃ z, w = .float z) ∨ (i = .areturn ∧ t.isReference = true ∧ w.isRef = true))
    (hlk : meth.locks = false) (hd : decode c.code pc = .ok (i, 1))
    (eT : T.heap = h) (hq : Q (some w) h locs) (hc : cells ≤ kc) (hl : slots ≤ ks) : Comes p e below (EndsAt below s Q kc ks) (T.setTop (mkF m pc Ls (w :: rest))) :=
  Comes.fin X (fun q => by rw [hret] at q; cases q) hlk (fun _ hr => retOut X hx hret hn hi hd hr) eT hq hc hl
/-- the same where the frame is the wide one -/
def EndsAtW (below : List Frame) (s : State) (Q : Option Value → Heap → List Loc → Prop) (kc ks : Nat) (s₂ : State) : Prop := ∃ o, s₂.status = .running ∧ Ended s₂ below o ∧ ∃ v L, o = .returned v ∧ Q v s₂.heap L ∧ ReturnedEndW s o s₂ L kc ks
theorem Comes.outW (h : Comes p e below (EndsAtW below s Q kc ks) S) : ∃ s₂ o, Steps p.tables e below S s₂ ∧ s₂.status = .running ∧ Ended s₂ below o ∧ ∃ v L, o = .returned v ∧ Q v s₂.heap L ∧ ReturnedEndW s o s₂ L kc ks := by
  obtain ⟨s₂, h1, o, r⟩ := h; exact ⟨s₂, o, h1, r⟩
theorem Comes.wretN {vm₁ : Vm} {n : Nat} (X : Stand p l e R (s.setVm vm₁) m args below meth c T locs cells slots) (hx : p.tables.exec = Jvm.exec) {pc : Nat} {Ls : Array Slot} {z : Int32} {t : FieldType} {rest : List Value} (hret : meth.sig.returnType = some t) (ht : t = .boolean ∨ t = .byte ∨ t = .char ∨ t = .short) (hlk : meth.locks = false) (hd : decode c.code pc = .ok (.ireturn, 1))
    (hS : s.Since vm₁ n) (hn : n ≤ h.size) (eT : T.heap = h) (hq : Q (some (.int (nar t z))) h locs) (hc : cells ≤ kc) (hl : slots ≤ ks) : Comes p e below (EndsAtW below s Q kc ks) (T.setTop (mkF m pc Ls (.int z :: rest))) := by
  obtain ⟨fs, hr, hrun, hended, h1, h2, h3, h4⟩ := X.leaveW hS (by rw [eT]; exact hn) (v := some (.int (nar t z))) (fun q => by rw [hret] at q; cases q) hlk
  exact ⟨_, Jvm.RoadKit.retN X hx hret ht hd hr, _, hrun, hended, _, _, rfl, (show Q _ T.heap locs from by rw [eT]; exact hq), h1, h2, h3, h4.mono hc hl⟩
theorem narrow_ref {t : FieldType} {w : Value} (h : w.isRef = true) : narrow t w = w := by rcases ref_cases h with rfl | ⟨y, rfl⟩ <;> cases t <;> rfl
theorem lremM {g : JFrame} {target : State} (X : Stand p l e R s m args below meth c T locs cells slots) (hx : p.tables.exec = Jvm.exec) (hg : g.method = m) {x y : Int64} {rest : List Value} (hd : decode c.code g.pc = .ok (.lrem, 1)) (hs : g.stack = .long y :: .long x :: rest) (hy : ¬ y = 0)
    (hr : Steps p.tables e below (T.setTop { g with pc := g.pc + 1, stack := .long (x % y) :: rest }) target) : Steps p.tables e below (T.setTop g) target := by
  have q : x - x / y * y = x % y := lrem_mod x y
  exact XT.lrem X.here hx hg hd hs hy (by rw [q]; exact hr)
theorem own_dup2 {g : JFrame} {target : State} (X : Stand p l e R s m args below meth c T locs cells slots) (hx : p.tables.exec = Jvm.exec) (hg : g.method = m) {x y : Value} {rest : List Value} (hd : decode c.code g.pc = .ok (.dup2, 1)) (hs : g.stack = x :: y :: rest) (hcx : x.category = 1) (hcy : y.category = 1)
    (hr : Steps p.tables e below (T.setTop { g with pc := g.pc + 1, stack := x :: y :: x :: y :: rest }) target) : Steps p.tables e below (T.setTop g) target := by
  subst hg
  jvm_step X.here [X.here.top, hx, hd, hs, hcx, hcy]
  exact hr
theorem own_inb {j : Int32} {n : Nat} (h : 0 ≤ j.toInt ∧ j.toInt < (n : Int)) : ¬ (j < 0 ∨ n ≤ j.toNatClampNeg) := by
  rw [Int32.lt_iff_toInt_lt]; simp only [Int32.toNatClampNeg, Int32.reduceToInt]; omega
theorem own_lrem (x y : Int64) (d : Int) (hy : y.toInt = d) : (0 ≤ x.toInt → (x % y).toInt = x.toInt % d) ∧ (x.toInt < 0 → (x % y).toInt = -((-x.toInt) % d)) := by rw [Int64.toInt_mod, hy]; exact tr _ _
theorem own_lremV (x y : Int64) : 0 ≤ x.toInt → 0 < y.toInt → 0 ≤ (x % y).toInt ∧ (x % y).toInt < y.toInt := by
  intro h1 h2
  rw [Int64.toInt_mod, Int.tmod_eq_emod_of_nonneg h1]
  exact ⟨Int.emod_nonneg _ (by omega), Int.emod_lt_of_pos _ h2⟩
theorem own_eqi {a0 : Array Value} {Z : State} {t : Term} {k : Int32} {idx : List Nat} (h : (Jvm.Cond.eq t (Term.int k)).value a0 Z none Z idx = some true) : t.eval a0 Z none idx Z = some (.int k) := by
  obtain ⟨x, y, e1, e2, k1, k2⟩ := cmp_v (Or.inl h)
  simp only [Term.eval, Option.some.injEq] at e2
  subst e2
  obtain ⟨z, rfl⟩ := k2
  simp [Cond.value, e1, Term.eval] at h
  rw [e1, h]
theorem own_selp {a0 : Array Value} {Z : State} {y : MethodName} {n : Nat} (wi : (Jvm.Cond.instantiable y.cls n).before a0 Z = true) (wp : (Jvm.Cond.privateMethod y).before a0 Z = true) (wm : (Jvm.Cond.instanceMethod y).before a0 Z = true) (hy : y.cls ≠ "java/lang/invoke/MethodHandle" ∧ y.cls ≠ "java/lang/invoke/VarHandle") : (Jvm.Cond.selects y.cls y y).before a0 Z = true := by
  obtain ⟨c, k, h1, h2, h3, h4, -⟩ := Cond.instantiable_spec wi
  exact Jvm.Stand.selects_self_of_private h1 h2 (by simp only [Bool.or_eq_false_iff] at h4; exact h4.1) (Cond.privateMethod_at wp) wm hy
theorem own_eqr {a0 : Array Value} {Z : State} {t u : Term} {y : Value} {idx : List Nat} (h : (Jvm.Cond.eq t u).value a0 Z none Z idx = some true) (hu : u.eval a0 Z none idx Z = some y) (hy : y.isRef = true) : t.eval a0 Z none idx Z = some y := by
  obtain ⟨x, y', e1, e2, k1, k2⟩ := cmp_v (Or.inl h)
  cases hu.symm.trans e2
  have hx : x.isRef = true := by
    rcases ref_cases hy with rfl | ⟨z, rfl⟩ <;> cases x <;> simp_all [Kin, Value.isRef]
  rw [e1, gotT (eq_R e1 hu hx hy) h]
theorem own_len {a0 : Array Value} {Z : State} {t : Term} {a : Addr} {cl : Cell} {ty : FieldType} {k : Int32} (ht : t.eval a0 Z none [] Z = some (.ref a)) (A : Arr Z Z.heap a cl ty) (h : (Jvm.Cond.eq (Term.length t) (Term.int k)).value a0 Z none Z [] = some true) : cl.slots.size < 2 ^ 31 ∧ cl.slots.size.toInt32 = k := by
  have e := own_eqi h
  have e2 := A.fin (Vm.Alike.refl _)
  simp [Term.eval, ht, e2] at e
  exact ⟨by omega, e.2⟩
theorem own_elem {a0 : Array Value} {Z : State} {t u : Term} {a : Addr} {cl : Cell} {j : Int32} {y : Value} (ht : t.eval a0 Z none [] Z = some (.ref a)) (hc : Z.heap[a]? = some cl) (h : (Jvm.Cond.eq (Term.elem t (Term.int j)) u).value a0 Z none Z [] = some true) (hu : u.eval a0 Z none [] Z = some y) (hy : y.isRef = true) : cl.slots[j.toNatClampNeg]? = some y := (elem_in (own_eqr h hu hy) ht (by rfl) hc).2
theorem own_fldi {a0 : Array Value} {Z : State} {t : Term} {k : Int32} {a : Addr} {C n d : String} (ht : t.eval a0 Z none [] Z = some (.ref a)) (h : (Jvm.Cond.eq (Term.field t C n d) (Term.int k)).value a0 Z none Z [] = some true) : Fld Z Z.heap a C n d (.int k) := Fld.start ((fld_at ht).symm.trans (own_eqi h))
end Own
theorem d4_0 : decode jdk_78_method_2_code 0 = .ok (.aload_n 0, 1) := by decide +kernel
theorem d4_1 : decode jdk_78_method_2_code 1 = .ok (.invokespecial 1, 3) := by decide +kernel
theorem d4_4 : decode jdk_78_method_2_code 4 = .ok (.aload_n 0, 1) := by decide +kernel
theorem d4_5 : decode jdk_78_method_2_code 5 = .ok (.aload_n 0, 1) := by decide +kernel
theorem d4_6 : decode jdk_78_method_2_code 6 = .ok (.putfield 7, 3) := by decide +kernel
theorem d4_9 : decode jdk_78_method_2_code 9 = .ok (.aload_n 0, 1) := by decide +kernel
theorem d4_10 : decode jdk_78_method_2_code 10 = .ok (.getstatic 13, 3) := by decide +kernel
theorem d4_13 : decode jdk_78_method_2_code 13 = .ok (.putfield 17, 3) := by decide +kernel
theorem d4_16 : decode jdk_78_method_2_code 16 = .ok (.aload_n 0, 1) := by decide +kernel
theorem d4_17 : decode jdk_78_method_2_code 17 = .ok (.getstatic 20, 3) := by decide +kernel
theorem d4_20 : decode jdk_78_method_2_code 20 = .ok (.putfield 24, 3) := by decide +kernel
theorem d4_23 : decode jdk_78_method_2_code 23 = .ok (.aload_n 0, 1) := by decide +kernel
theorem d4_24 : decode jdk_78_method_2_code 24 = .ok (.invokevirtual 27, 3) := by decide +kernel
theorem d4_27 : decode jdk_78_method_2_code 27 = .ok (.pop, 1) := by decide +kernel
theorem d4_28 : decode jdk_78_method_2_code 28 = .ok (.aload_n 0, 1) := by decide +kernel
theorem d4_29 : decode jdk_78_method_2_code 29 = .ok (.aload_n 1, 1) := by decide +kernel
theorem d4_30 : decode jdk_78_method_2_code 30 = .ok (.putfield 31, 3) := by decide +kernel
theorem d4_33 : decode jdk_78_method_2_code 33 = .ok (.return_, 1) := by decide +kernel
theorem d3_0 : decode jdk_59_method_2_code 0 = .ok (.aload_n 0, 1) := by decide +kernel
theorem d3_1 : decode jdk_59_method_2_code 1 = .ok (.aload_n 1, 1) := by decide +kernel
theorem d3_2 : decode jdk_59_method_2_code 2 = .ok (.invokespecial 7, 3) := by decide +kernel
theorem d3_5 : decode jdk_59_method_2_code 5 = .ok (.return_, 1) := by decide +kernel
theorem d2_0 : decode jdk_131_method_2_code 0 = .ok (.aload_n 0, 1) := by decide +kernel
theorem d2_1 : decode jdk_131_method_2_code 1 = .ok (.aload_n 1, 1) := by decide +kernel
theorem d2_2 : decode jdk_131_method_2_code 2 = .ok (.invokespecial 7, 3) := by decide +kernel
theorem d2_5 : decode jdk_131_method_2_code 5 = .ok (.return_, 1) := by decide +kernel
theorem d1_0 : decode prog_12_method_1_code 0 = .ok (.aload_n 0, 1) := by decide +kernel
theorem d1_1 : decode prog_12_method_1_code 1 = .ok (.aload_n 3, 1) := by decide +kernel
theorem d1_2 : decode prog_12_method_1_code 2 = .ok (.invokespecial 1, 3) := by decide +kernel
theorem d1_5 : decode prog_12_method_1_code 5 = .ok (.aload_n 0, 1) := by decide +kernel
theorem d1_6 : decode prog_12_method_1_code 6 = .ok (.iload_n 1, 1) := by decide +kernel
theorem d1_7 : decode prog_12_method_1_code 7 = .ok (.putfield 7, 3) := by decide +kernel
theorem d1_10 : decode prog_12_method_1_code 10 = .ok (.aload_n 0, 1) := by decide +kernel
theorem d1_11 : decode prog_12_method_1_code 11 = .ok (.iload_n 2, 1) := by decide +kernel
theorem d1_12 : decode prog_12_method_1_code 12 = .ok (.putfield 13, 3) := by decide +kernel
theorem d1_15 : decode prog_12_method_1_code 15 = .ok (.return_, 1) := by decide +kernel
theorem d8_0 : decode prog_12_method_2_code 0 = .ok (.aload_n 0, 1) := by decide +kernel
theorem d8_1 : decode prog_12_method_2_code 1 = .ok (.iconst 0, 1) := by decide +kernel
theorem d8_2 : decode prog_12_method_2_code 2 = .ok (.iconst 0, 1) := by decide +kernel
theorem d8_3 : decode prog_12_method_2_code 3 = .ok (.aload_n 1, 1) := by decide +kernel
theorem d8_4 : decode prog_12_method_2_code 4 = .ok (.invokespecial 16, 3) := by decide +kernel
theorem d8_7 : decode prog_12_method_2_code 7 = .ok (.return_, 1) := by decide +kernel
theorem d9_0 : decode prog_12_method_3_code 0 = .ok (.aload_n 0, 1) := by decide +kernel
theorem d9_1 : decode prog_12_method_3_code 1 = .ok (.getfield 7, 3) := by decide +kernel
theorem d9_4 : decode prog_12_method_3_code 4 = .ok (.ifCond .le 7, 3) := by decide +kernel
theorem d9_7 : decode prog_12_method_3_code 7 = .ok (.iconst 1, 1) := by decide +kernel
theorem d9_8 : decode prog_12_method_3_code 8 = .ok (.goto 4, 3) := by decide +kernel
theorem d9_12 : decode prog_12_method_3_code 12 = .ok (.ireturn, 1) := by decide +kernel
theorem d9_11 : decode prog_12_method_3_code 11 = .ok (.iconst 0, 1) := by decide +kernel
theorem d10_0 : decode prog_12_method_4_code 0 = .ok (.aload_n 0, 1) := by decide +kernel
theorem d10_1 : decode prog_12_method_4_code 1 = .ok (.getfield 7, 3) := by decide +kernel
theorem d10_4 : decode prog_12_method_4_code 4 = .ok (.ireturn, 1) := by decide +kernel
theorem d11_0 : decode prog_12_method_5_code 0 = .ok (.aload_n 0, 1) := by decide +kernel
theorem d11_1 : decode prog_12_method_5_code 1 = .ok (.getfield 13, 3) := by decide +kernel
theorem d11_4 : decode prog_12_method_5_code 4 = .ok (.ireturn, 1) := by decide +kernel
theorem pd_0 : parseMethodDescriptor "(Ljava/lang/String;)V" = some ⟨[(.object "java/lang/String")], none⟩ := by decide +kernel
theorem pd_1 : parseMethodDescriptor "(IILjava/lang/String;)V" = some ⟨[.int, .int, (.object "java/lang/String")], none⟩ := by decide +kernel
theorem pd_2 : parseMethodDescriptor "()Z" = some ⟨[], some .boolean⟩ := by decide +kernel
theorem pd_3 : parseMethodDescriptor "()I" = some ⟨[], some .int⟩ := by decide +kernel
theorem pn_4 : plainName "java/lang/Throwable" = true := by first | (simp [plainName, overriddenIn]; done) | decide +kernel
theorem pn_3 : plainName "java/lang/Exception" = true := by first | (simp [plainName, overriddenIn]; done) | decide +kernel
theorem pn_2 : plainName "java/io/IOException" = true := by first | (simp [plainName, overriddenIn]; done) | decide +kernel
theorem pn_1 : plainName "com/example/ordr/ordr/io/DotSyntaxException" = true := by first | (simp [plainName, overriddenIn]; done) | decide +kernel
theorem pn_8 : plainName "com/example/ordr/ordr/io/DotSyntaxException" = true := by first | (simp [plainName, overriddenIn]; done) | decide +kernel
theorem pn_9 : plainName "com/example/ordr/ordr/io/DotSyntaxException" = true := by first | (simp [plainName, overriddenIn]; done) | decide +kernel
theorem pn_10 : plainName "com/example/ordr/ordr/io/DotSyntaxException" = true := by first | (simp [plainName, overriddenIn]; done) | decide +kernel
theorem pn_11 : plainName "com/example/ordr/ordr/io/DotSyntaxException" = true := by first | (simp [plainName, overriddenIn]; done) | decide +kernel
theorem pn_0 : plainName "com/example/ordr/ordr/io/DotSyntaxExceptionHasPlacePinLaw" = true := by first | (simp [plainName, overriddenIn]; done) | decide +kernel
theorem ef_rm4 (m : MethodId) (x0 : Nat) (x1 : Nat) : entryFrame m #[(.ref x0), (.ref x1)] 2 = mkF m 0 #[.val (.ref x0), .val (.ref x1)] [] := by first | (simp [entryFrame, mkF, argsToLocals, Value.category]; done) | rfl
theorem ef_rm3 (m : MethodId) (x0 : Nat) (x1 : Nat) : entryFrame m #[(.ref x0), (.ref x1)] 2 = mkF m 0 #[.val (.ref x0), .val (.ref x1)] [] := by first | (simp [entryFrame, mkF, argsToLocals, Value.category]; done) | rfl
theorem ef_rm2 (m : MethodId) (x0 : Nat) (x1 : Nat) : entryFrame m #[(.ref x0), (.ref x1)] 2 = mkF m 0 #[.val (.ref x0), .val (.ref x1)] [] := by first | (simp [entryFrame, mkF, argsToLocals, Value.category]; done) | rfl
theorem ef_rm1 (m : MethodId) (x0 : Nat) (x1 : Int32) (x2 : Int32) (x3 : Nat) : entryFrame m #[(.ref x0), (.int x1), (.int x2), (.ref x3)] 4 = mkF m 0 #[.val (.ref x0), .val (.int x1), .val (.int x2), .val (.ref x3)] [] := by first | (simp [entryFrame, mkF, argsToLocals, Value.category]; done) | rfl
theorem ef_rm8 (m : MethodId) (x0 : Nat) (x1 : Nat) : entryFrame m #[(.ref x0), (.ref x1)] 2 = mkF m 0 #[.val (.ref x0), .val (.ref x1)] [] := by first | (simp [entryFrame, mkF, argsToLocals, Value.category]; done) | rfl
theorem ef_rm9 (m : MethodId) (x0 : Nat) : entryFrame m #[(.ref x0)] 1 = mkF m 0 #[.val (.ref x0)] [] := by first | (simp [entryFrame, mkF, argsToLocals, Value.category]; done) | rfl
theorem ef_rm10 (m : MethodId) (x0 : Nat) : entryFrame m #[(.ref x0)] 1 = mkF m 0 #[.val (.ref x0)] [] := by first | (simp [entryFrame, mkF, argsToLocals, Value.category]; done) | rfl
theorem ef_rm11 (m : MethodId) (x0 : Nat) : entryFrame m #[(.ref x0)] 1 = mkF m 0 #[.val (.ref x0)] [] := by first | (simp [entryFrame, mkF, argsToLocals, Value.category]; done) | rfl
theorem ef_rm0 (m : MethodId) (x0 : Int32) (x1 : Int32) : entryFrame m #[(.int x0), (.int x1)] maxLocals = mkF m 0 #[.val (.int x0), .val (.int x1), .unset, .unset, .unset, .unset] [] := by first | (simp [entryFrame, mkF, argsToLocals, Value.category, maxLocals]; done) | rfl
section OwnExc
open Jvm.Free.Exc Jvm.Lib.Cold LibCode.Throwable
variable {p : Program} {l : Launch} {e : Env} {R : Room} {s : State} {m : MethodId} {args : Array Value} {below : List Frame} {meth : Method} {c : Code} {T : State} {locs : List Loc} {cells slots : Nat} {Z : State} {a0 : Array Value} {h h' : Heap}
/-- what the sheet says of Throwable, over the class rc alone (no word on how Throwable itself lays its fields) -/
def own_at (rc : String) : List Jvm.Cond := [.initialized tN, .superclass tN "java/lang/Object", .instanceMethod tFill, .codeSync tFill Fill.code 1 (some (.object tN)), .instanceMethod tFill0, .native tFill0, .instanceMethod oInit, .code oInit object_method_1_code 1 none,
  .methodLink tN 1 oInit, .methodLink tN 27 tFill, .methodLink tN 202 tFill0, .fieldLink tN 7 tN "cause" thD, .fieldLink tN 17 tN "stackTrace" steD, .fieldLink tN 24 tN "suppressedExceptions" listD, .fieldLink tN 13 tN "UNASSIGNED_STACK" steD, .fieldLink tN 20 tN "SUPPRESSED_SENTINEL" listD,
  .fieldLink tN 198 tN "backtrace" obD, .laysStatic tN "UNASSIGNED_STACK" steD, .laysStatic tN "SUPPRESSED_SENTINEL" listD, .lays rc tN "cause" thD, .lays rc tN "stackTrace" steD, .lays rc tN "suppressedExceptions" listD, .lays rc tN "backtrace" obD, .lays rc tN "depth" "I", .lays rc tN "detailMessage" msgD,
  .declares tFill, .selects rc tFill0 tFill0, .selects rc tFill tFill, .arrayOver (.object "java/lang/Object"), .soleField tN "backtrace", .soleField tN "depth"]
theorem own_at_ok {rc : String} : (own_at rc).all xOk = true := rfl
theorem own_T {pl : Platform} (howns : pl.frameOwnsMonitors = true) (hfin : pl.finalization = false) (hpl : pl.magicAccessors = ({} : Platform).magicAccessors) {rc : String} (W : ∀ d ∈ own_at rc, d.before args s = true) :
    ∃ Y : ThrowableC, Y.Links pl s ∧ s.vm.findClass tN = some Y.cT ∧ s.methodNamed? tFill = some Y.fill ∧ s.methodNamed? tFill0 = some Y.fill0 ∧ s.fieldFound? tN "stackTrace" steD = some (Y.cT, Y.kT, Y.i17, Y.fStack) ∧ s.fieldFound? tN "UNASSIGNED_STACK" steD = some (Y.cT, Y.kT, Y.i13, Y.fUnassigned) ∧
      Y.fStack.name = "stackTrace" ∧ Y.fStack.type = .array (.object "java/lang/StackTraceElement") ∧ ∃ cell, s.heap[Y.aS]? = some cell ∧ cell.vm.isStatics = true := by
  have w : ∀ (i : Nat) {d : Jvm.Cond}, (own_at rc)[i]? = some d → d.holds args s none s [] = true := fun i d q => W d (List.mem_of_getElem? q)
  obtain ⟨⟨cT, j0⟩, u0, n0, m0, v0, b0, k0, g0⟩ := Cond.native_spec (w 5 rfl)
  have fT : s.vm.findClass tN = some cT := findClass_of_methodNamed n0
  obtain ⟨kT, aT, nT⟩ := Vm.findClass_spec fT
  have tc := Cond.superclass_spec fT (w 1 rfl)
  obtain ⟨_, kk, _, _, hkk, _, _, -, _, nI⟩ := tc
  cases aT.symm.trans hkk
  obtain ⟨jF, uF, nF, mF, pF, sF, bF, -, -⟩ := Cond.ownMethod (x := tFill) fT aT (w 2 rfl)
  obtain ⟨uF', cF, mF', eF, yF, lF, rF, oF, -, gF⟩ := Cond.codeSync_spec nF (w 3 rfl)
  cases mF.symm.trans mF'
  obtain ⟨j1, u1, n1, m1, p1, s1, b1, q1, q2⟩ := Cond.ownMethod (x := tFill0) fT aT (w 4 rfl)
  cases n0.symm.trans n1
  cases m0.symm.trans m1
  obtain ⟨mO, uO, nO, aO, sO, bO⟩ := Cond.instanceMethod_spec (w 6 rfl)
  obtain ⟨uO', cO, aO', eO, yO, -, -, oO, -, gO⟩ := Cond.code_spec nO (w 7 rfl)
  cases aO.symm.trans aO'
  obtain ⟨kO, hkO, knO⟩ := Vm.findClass_spec (findClass_of_methodNamed nO)
  obtain ⟨x1, x2⟩ := name_of_methodNamed nO aO
  obtain ⟨ci1, t1, cf, l1, r1, f1, z1⟩ := Cond.linkedMethod fT aT nO (w 8 rfl) pl hpl
  obtain ⟨ci27, t27, cf', l27, r27, f27, z27⟩ := Cond.linkedMethod fT aT nF (w 9 rfl) pl hpl
  cases f1.symm.trans f27
  obtain ⟨ci202, t202, cf', l202, r202, f202, z202⟩ := Cond.linkedMethod fT aT n0 (w 10 rfl) pl hpl
  cases f1.symm.trans f202
  obtain ⟨ci7, i7, c7, l7, r7, a7, s7, e7, n7, -, -⟩ := Cond.ownField (t := .object tN) fT aT (by decide +kernel) (w 11 rfl) (w 19 rfl) pl hpl
  obtain ⟨ci17, i17, c17, l17, r17, a17, s17, e17, n17, t17, d17⟩ := Cond.ownField (t := .array (.object "java/lang/StackTraceElement")) fT aT (by decide +kernel) (w 12 rfl) (w 20 rfl) pl hpl
  obtain ⟨ci24, i24, c24, l24, r24, a24, s24, e24, n24, -, d24⟩ := Cond.ownField (t := .object "java/util/List") fT aT (by decide +kernel) (w 13 rfl) (w 21 rfl) pl hpl
  obtain ⟨ci13, i13, c13, aS, cS, l13, r13, a13, s13, -, -, st, hS, iS, -, -, d13⟩ := Cond.ownStatic (t := .array (.object "java/lang/StackTraceElement")) fT aT (by decide +kernel) (w 14 rfl) (w 17 rfl) pl hpl
  obtain ⟨ci20, i20, c20, _, _, l20, r20, a20, s20, -⟩ := Cond.ownStatic (t := .object "java/util/List") fT aT (by decide +kernel) (w 15 rfl) (w 18 rfl) pl hpl
  obtain ⟨_, _, _, _, iM, fM, _, _, _, sM, eM, _⟩ := Cond.lays_spec (w 24 rfl)
  obtain ⟨cX, kX, hX, hkX⟩ : ∃ cX kX, s.vm.findClass rc = some cX ∧ s.vm.classes[cX]? = some kX := by
    obtain ⟨cX, kX, _, _, _, _, z1, z2, -⟩ := Cond.lays_spec (w 20 rfl); exact ⟨cX, kX, z1, z2⟩
  obtain ⟨-, g1, y1, y2⟩ := Cond.laysAt hX hkX d17 (w 20 rfl)
  obtain ⟨-, g2, y3, y4⟩ := Cond.laysAt hX hkX d24 (w 21 rfl)
  have apart := Cond.laysApart y1 y3 y2 y4 (by rw [n17, n24]; decide)
  have pF : uF.sig.parameters = [] := by
    have z : (parseMethodDescriptor tFill.desc).map (·.parameters) = some [] := by decide +kernel
    rw [gF] at z; simpa using z
  have p0 : u0.sig.parameters = [.int] := by
    have z : (parseMethodDescriptor tFill0.desc).map (·.parameters) = some [.int] := by decide +kernel
    rw [g0] at z; simpa using z
  have pO : uO.sig.parameters.length = 0 := by
    have z : (parseMethodDescriptor oInit.desc).map (·.parameters) = some [] := by decide +kernel
    rw [gO] at z
    have z2 : uO.sig.parameters = [] := by simpa using z
    rw [z2]; rfl
  refine ⟨{ cT := cT, kT := kT, cO := cT, aS := aS, fillIdx := jF, fill0Idx := j0, initSIdx := jF, obj := mO, kObj := kO, methFill := uF, methFill0 := u0, methInitS := uF, methObj := uO, codeFill := cF, codeInitS := cF, codeObj := cO, fBack := c7, fDepth := c7, fStack := c17, fCause := c7, fSupp := c24, fMsg := fM, fUnassigned := c13, fSentinel := c20, cfT := cf, ci1 := ci1, n1 := t1, ci27 := ci27, n27 := t27, ci202 := ci202, n202 := t202, ci7 := ci7, i7 := i7, ci13 := ci13, i13 := i13, ci17 := ci17, i17 := i17, ci20 := ci20, i20 := i20, ci24 := ci24, i24 := i24 }, ?_, fT, nF, n0, d17, d13, n17, t17, cS, hS, iS⟩
  constructor <;> first | assumption | exact Vm.findClass_boot fT aT | exact Cond.initialized_spec fT aT (w 0 rfl) | (show lookupSpecial s.vm mO.cls "<init>" uO.desc = _; rw [x2]; exact lookupSpecial_of_named nO aO sO)
theorem own_fill (X : Stand p l e R s m args below meth c T locs cells slots) (hx : p.tables.exec = Jvm.exec) (hl : l.stackTraces = true) (hZ : Z.Warmed39 s.vm) (hown : s.vm.findClass tN = some m.cls) {rc : String} {n : Nat} (hw : ∀ d ∈ own_at rc, d.before a0 Z = true) (wi : (Jvm.Cond.instantiable rc n).before a0 Z = true)
    (hT0 : ThS Z s.heap) (hT : ThS Z h) (hTK : s.vm.MethodsKnown) (hBelow : s.vm.FramesKnown below) (eT : T.heap = h) {a : Addr} (E : Exa Z h a rc) (N : Unt h a) (B : Fld Z h a tN "backtrace" obD .null) {u : Value} (hu : u.isRef = true) (F : Fld Z h a tN "stackTrace" steD u) (S : Sta Z h tN "UNASSIGNED_STACK" steD u)
    (hlocs : ∀ x ∈ locs, x ∈ sixLocs Z a) {pc : Nat} {Ls : Array Slot} (hsize : Ls.size = c.maxLocals) (hd : decode c.code pc = .ok (.invokevirtual 27, 3)) (hf : 3 ≤ R.frames) (hlo : 42 ≤ R.locals) (hc : cells + 1 ≤ R.cells) (hsl : slots + 2752 ≤ R.slots) :
    ∃ (T' : State) (h' : Heap), Stand p l e R s m args below meth c T' (sixLocs Z a) (cells + 1) (slots + 2752) ∧ T'.heap = h' ∧ Kp Z s.heap h' a ∧ Steps p.tables e below (T.setTop (mkF m pc Ls [.ref a])) (T'.setTop (mkF m (pc + 3) Ls [.ref a])) := by
  have W : ∀ d ∈ own_at rc, d.before args s = true := fun d q => mvX hT0 hZ (List.all_eq_true.mp own_at_ok d q) (hw d q)
  have w : ∀ (i : Nat) {d : Jvm.Cond}, (own_at rc)[i]? = some d → d.before args s = true := fun i d q => W d (List.mem_of_getElem? q)
  have htr : e.platform.stackTraces = true := by rw [X.admits.platform]; exact hl
  have hpl : e.platform.magicAccessors = ({} : Platform).magicAccessors := by rw [X.admits.platform]
  obtain ⟨Y, L, fT, nF, n0, dS, dU, nS, tS, cS0, hS0, iS0⟩ := own_T (pl := e.platform) (by rw [X.admits.platform]) (by rw [X.admits.platform]) hpl W
  have hal := hZ.alike
  obtain ⟨cell, kc, e1, e2, e3, -, e5⟩ := E
  obtain ⟨cell', u1, u2, u3⟩ := N
  cases e1.symm.trans u1
  obtain ⟨c4, k2, i1, i2, i3, -⟩ := Cond.instantiable_spec wi
  cases e2.symm.trans i1
  cases e3.symm.trans i2
  obtain ⟨kX, q1, q2⟩ := hal.2.2 _ _ e3
  have hord : kX.kind = .ordinary := by rw [q2]; exact i3
  have hsz : cell.slots.size = kX.instanceTypes.size := by rw [q2]; exact e5 i3
  have hfound : s.vm.findClass rc = some cell.cls := by rw [hal.findClass]; exact e2
  have tk : ∀ {f : Field} {v : Value}, kX.instanceTypes[f.slot]? = some f.type → fits f.type v = true → Jvm.Takes s cell f v := fun {f v} h1 h2 => by
    obtain ⟨z1, z2⟩ := Takes.of_laid (v := v) q1 hord h1 h2
    exact ⟨by rw [hsz]; simpa using z1, by rw [u2]; exact z2⟩
  have atf : ∀ {nm d : String} {v : Value} {cf : ClassId} {k : Class} {i : Nat} {f : Field}, Fld Z h a tN nm d v → s.fieldFound? tN nm d = some (cf, k, i, f) → cell.slots[f.slot]? = some v := fun {nm d v cf k i f} G q => by
    obtain ⟨c9, cf9, k9, i9, f9, g1, g2, -, -, -, -, g7⟩ := G
    cases e1.symm.trans g1
    obtain ⟨k8, g8, -⟩ := State.fieldFound?_setVm (s := Z) hal g2
    cases (show s.fieldFound? tN nm d = _ from g8).symm.trans q
    exact g7
  obtain ⟨ci8, i8, fB, l8, r8, a8, s8, -, nB, tB, dB⟩ := Cond.ownField (t := .object "java/lang/Object") fT L.cls (by decide +kernel) (w 16 rfl) (w 22 rfl) e.platform hpl
  obtain ⟨_, _, cD, kD, iD, fD, _, _, dD, sD, _⟩ := Cond.lays_spec (w 23 rfl)
  cases Option.some.inj ((Cond.lays_declared (w 23 rfl) dD).symm.trans fT)
  obtain ⟨aD, aD2⟩ := State.fieldFound?_spec dD
  cases Option.some.inj (aD.symm.trans L.cls)
  obtain ⟨nD, tD⟩ := State.fieldFound?_type dD (t := .int) (by decide +kernel)
  obtain ⟨comp, cO, kO, -, -, o1, o2, o3⟩ := Cond.arrayOver_spec (w 28 rfl)
  have tyS := (Cond.laysAt hfound q1 dS (w 20 rfl)).1
  have tyB := (Cond.laysAt hfound q1 dB (w 22 rfl)).1
  have tyD := (Cond.laysAt hfound q1 dD (w 23 rfl)).1
  have hsel0 : selectMethod e.platform s.vm cell.cls Y.fill0 = .method Y.fill0 := by
    obtain ⟨c2, r2, m2, z1, z2, z3, z4, -⟩ := Cond.selects_spec (w 26 rfl)
    cases Option.some.inj (z1.symm.trans hfound)
    cases Option.some.inj (z2.symm.trans (State.methodFound?_of_named n0 (by decide)))
    cases Option.some.inj (z3.symm.trans n0)
    rw [Launch.admits_selectMethod X.admits]; exact z4
  obtain ⟨cf, iU, kU, fU, st, cS, v1, v2, v3, v4, v5, v6, v7⟩ := S
  obtain ⟨k8, v8, v9⟩ := State.fieldFound?_setVm (s := Z) hal v1
  cases (show s.fieldFound? tN "UNASSIGNED_STACK" steD = _ from v8).symm.trans dU
  have v10 : st = Y.aS := by
    have := L.statics; rw [v9] at this; exact Option.some.inj (v4.symm.trans this)
  subst v10
  have hneS : Y.aS ≠ a := fun z => by rw [z, e1] at v5; cases v5; rw [u2] at v6; cases v6
  have hSE := w 27 rfl
  obtain ⟨v', vm', ⟨T6, L6, c6, n6⟩, -, X6, ⟨hv6, C6, n', hn, -, -, -, -, -, hL6, hc6, hn6⟩, come⟩ := X.virtualBack hx (own := tN) (C := rc) (index := 27) (y := tFill) (z := tFill) hown (w 9 rfl) (w 25 rfl) (notFace_of_selects hSE) hSE (w 2 rfl) (by decide)
    (fillPaysAny (l := l) (W := 0) hx htr Y L nF (u0 := ⟨u, hu⟩) (self := a) (cell := cell) (cellS := cS) (fun _ => by rw [u2]; simp) (by rw [u2]; simp) (by rw [u3]) (by rw [u3]) (atf F dS) hsel0 hneS (fun z => by rw [z] at v6; cases v6) v7 (tk tyS (by rw [tS]; exact fits_refV_array _ ⟨u, hu⟩))
      ⟨{ ci198 := ci8, i198 := i8, fBack := fB }, ⟨l8, r8, a8, s8⟩, atf B dB⟩ hTK hBelow fT o3 o1 o2 (Cond.soleField_find fT L.cls (w 29 rfl) a8 nB s8) (Cond.soleField_find fT L.cls (w 30 rfl) aD2 nD sD)
      (fun x => tk tyB (by rw [tB]; rfl)) (fun x => tk tyD (by rw [tD]; rfl)) (by omega) (by omega))
    (b := a) (cB := cell.cls) hfound ⟨cell, by rw [eT]; exact e1, rfl, by rw [u2]; rfl⟩ (g := mkF m pc Ls [.ref a]) rfl hsize (Steps.refl _) (argsL := []) (rest := [])
    (fun sig z => by rw [show parseMethodDescriptor tFill.desc = some ⟨[], some (.object tN)⟩ from by decide +kernel] at z; rw [← Option.some.inj z]; rfl) rfl (by show 2 * 0 + 0 ≤ 0; decide) hd
    (fun vmx _ => ⟨rfl, hc, hsl, by rw [← eT] at e1; exact e1, by rw [← eT] at v5; exact v5⟩)
  dsimp only [Pt.U, Pt.locs, Pt.cells, Pt.slots] at X6 hL6 hc6 hn6 come
  subst hv6 hL6 hc6 hn6
  have six : ∀ x ∈ locs ++ [(⟨a, fB.slot⟩ : Loc), ⟨a, fD.slot⟩, ⟨a, Y.fStack.slot⟩], x ∈ sixLocs Z a := fun x hm => by
    rcases List.mem_append.mp hm with z | z
    · exact hlocs x z
    · have at6 : ∀ {nd : String × String} {cf : ClassId} {k : Class} {i : Nat} {f : Field}, nd ∈ sixNames → s.fieldFound? tN nd.1 nd.2 = some (cf, k, i, f) → (⟨a, f.slot⟩ : Loc) ∈ sixLocs Z a := fun {nd cf k i f} z1 z2 => by
        obtain ⟨c9, k9, i9, z3⟩ := Jvm.Free.BdW.found_ride (U := s) (U' := Z) hal.symm ⟨cf, k, i, z2⟩
        exact List.mem_map.mpr ⟨nd, z1, by simp [Jvm.RoadKit.slotOf, z3]⟩
      simp only [List.mem_cons, List.not_mem_nil, or_false] at z
      rcases z with rfl | rfl | rfl
      · exact at6 (nd := ("backtrace", obD)) (by simp [sixNames]) dB
      · exact at6 (nd := ("depth", "I")) (by simp [sixNames]) dD
      · exact at6 (nd := ("stackTrace", steD)) (by simp [sixNames]) dS
  have X7 : Stand p l e R s m args below meth c T6 (sixLocs Z a) (cells + 1) (slots + 2752) := Stand.more { X6 with same := X6.same.sift fun x hm => Or.inl (six x hm) } (Nat.le_refl _) (Nat.add_le_add_left hn _)
  refine ⟨T6, T6.heap, X7, rfl, ⟨X7.same.2.1, fun y cy hy => ?_⟩, come⟩
  obtain ⟨c', y1, y2, y3, y4⟩ := X7.same.2.2.2.2.2 y cy hy
  refine ⟨c', y1, y2, y3, fun ne => ?_, fun i hi => y4 i fun hm => ?_⟩
  · have : c'.slots = cy.slots := Array.ext_getElem? fun i => y4 i fun hm => by
      obtain ⟨nd, -, z⟩ := List.mem_map.mp hm
      exact ne (congrArg Loc.base z).symm
    rw [y2, this]
  · obtain ⟨nd, z1, z⟩ := List.mem_map.mp hm
    exact hi nd z1 (congrArg Loc.slot z)
theorem own_six_ne {rc O n d : String} {ty : FieldType} (hw : ∀ w ∈ own_at rc, w.before a0 Z = true) (Lf : Laid Z a0 rc O n d) (ht : parseFieldDescriptor d = some ty) (hn : ∀ nd ∈ sixNames, nd.1 ≠ n) : ∀ nd ∈ sixNames, Jvm.RoadKit.slotOf Z tN nd.1 nd.2 ≠ Jvm.RoadKit.slotOf Z O n d := fun nd hm => by
  have w : ∀ (i : Nat) {d : Jvm.Cond}, (own_at rc)[i]? = some d → d.before a0 Z = true := fun i d q => hw d (List.mem_of_getElem? q)
  have q := hn nd hm
  simp only [sixNames, List.mem_cons, List.not_mem_nil, or_false] at hm
  rcases hm with rfl | rfl | rfl | rfl | rfl | rfl
  · exact slot_ne (Or.inl (w 19 rfl)) Lf q (t := .object tN) (by decide) ht
  · exact slot_ne (Or.inl (w 20 rfl)) Lf q (t := .array (.object "java/lang/StackTraceElement")) (by decide) ht
  · exact slot_ne (Or.inl (w 21 rfl)) Lf q (t := .object "java/util/List") (by decide) ht
  · exact slot_ne (Or.inl (w 22 rfl)) Lf q (t := .object "java/lang/Object") (by decide) ht
  · exact slot_ne (Or.inl (w 23 rfl)) Lf q (t := .int) (by decide) ht
  · exact slot_ne (Or.inl (w 24 rfl)) Lf q (t := .object "java/lang/String") (by decide) ht
end OwnExc
theorem own_hat {Z : State} {a0 : Array Value} (hw : ∀ d ∈ tables_1, d.before a0 Z = true) : ∀ d ∈ own_at "com/example/ordr/ordr/io/DotSyntaxException", d.before a0 Z = true := by
  intro d hd
  simp only [own_at, List.mem_cons, List.not_mem_nil, or_false] at hd
  rcases hd with rfl | rfl | rfl | rfl | rfl | rfl | rfl | rfl | rfl | rfl | rfl | rfl | rfl | rfl | rfl | rfl | rfl | rfl | rfl | rfl | rfl | rfl | rfl | rfl | rfl | rfl | rfl | rfl | rfl | rfl | rfl
  · exact hw _ (List.mem_of_getElem? (i := 30) rfl)
  · exact hw _ (List.mem_of_getElem? (i := 50) rfl)
  · exact hw _ (List.mem_of_getElem? (i := 45) rfl)
  · exact hw _ (List.mem_of_getElem? (i := 51) rfl)
  · exact hw _ (List.mem_of_getElem? (i := 52) rfl)
  · exact hw _ (List.mem_of_getElem? (i := 53) rfl)
  · exact hw _ (List.mem_of_getElem? (i := 33) rfl)
  · exact hw _ (List.mem_of_getElem? (i := 34) rfl)
  · exact hw _ (List.mem_of_getElem? (i := 32) rfl)
  · exact hw _ (List.mem_of_getElem? (i := 43) rfl)
  · exact hw _ (List.mem_of_getElem? (i := 56) rfl)
  · exact hw _ (List.mem_of_getElem? (i := 35) rfl)
  · exact hw _ (List.mem_of_getElem? (i := 38) rfl)
  · exact hw _ (List.mem_of_getElem? (i := 41) rfl)
  · exact hw _ (List.mem_of_getElem? (i := 37) rfl)
  · exact hw _ (List.mem_of_getElem? (i := 40) rfl)
  · exact hw _ (List.mem_of_getElem? (i := 61) rfl)
  · exact hw _ (List.mem_of_getElem? (i := 63) rfl)
  · exact hw _ (List.mem_of_getElem? (i := 64) rfl)
  · exact hw _ (List.mem_of_getElem? (i := 36) rfl)
  · exact hw _ (List.mem_of_getElem? (i := 39) rfl)
  · exact hw _ (List.mem_of_getElem? (i := 42) rfl)
  · exact hw _ (List.mem_of_getElem? (i := 67) rfl)
  · exact hw _ (List.mem_of_getElem? (i := 68) rfl)
  · exact hw _ (List.mem_of_getElem? (i := 66) rfl)
  · exact hw _ (List.mem_of_getElem? (i := 44) rfl)
  · exact hw _ (List.mem_of_getElem? (i := 65) rfl)
  · exact hw _ (List.mem_of_getElem? (i := 46) rfl)
  · exact hw _ (List.mem_of_getElem? (i := 47) rfl)
  · exact hw _ (List.mem_of_getElem? (i := 48) rfl)
  · exact hw _ (List.mem_of_getElem? (i := 49) rfl)
def Q_rm4 (Z : State) (ea ms : Nat) (u1 u2 : Value) (lv cv : Int32) (h0 : Heap) (n0 : Nat) (v_ : Option Value) (h : Heap) (L_ : List Loc) : Prop := (v_ = none) ∧ (Fr n0 L_) ∧ (Keep h0 h [ea]) ∧ (Exa Z h ea "com/example/ordr/ordr/io/DotSyntaxException") ∧ (Fld Z h ea "com/example/ordr/ordr/io/DotSyntaxException" "line" "I" (.int lv)) ∧ (Fld Z h ea "com/example/ordr/ordr/io/DotSyntaxException" "column" "I" (.int cv))
set_option maxRecDepth 65536 in
set_option maxHeartbeats 40000000 in
theorem rm4 (l : Launch) (Z : State) (a0 : Array Value) (hw : ∀ d ∈ tables_1, d.before a0 Z = true) (ws : List Jvm.Cond) (ea ms : Nat) (u1 u2 : Value) (lv cv : Int32) (h0 : Heap) (n0 : Nat) (Z0 : n0 ≤ h0.size) (G0 : Sta Z Z.heap "java/lang/Throwable" "UNASSIGNED_STACK" "[Ljava/lang/StackTraceElement;" u1) (G1 : Sta Z Z.heap "java/lang/Throwable" "SUPPRESSED_SENTINEL" "Ljava/util/List;" u2) (G2 : u1.isRef = true) (G3 : u2.isRef = true) (G4 : Old Z n0 h0) (G5 : l.stackTraces = true) (G6 : Exa Z h0 ea "com/example/ordr/ordr/io/DotSyntaxException") (G7 : Unt h0 ea) (G8 : Fld Z h0 ea "java/lang/Throwable" "cause" "Ljava/lang/Throwable;" .null) (G9 : Fld Z h0 ea "java/lang/Throwable" "stackTrace" "[Ljava/lang/StackTraceElement;" .null) (G10 : Fld Z h0 ea "java/lang/Throwable" "suppressedExceptions" "Ljava/util/List;" .null) (G11 : Fld Z h0 ea "java/lang/Throwable" "backtrace" "Ljava/lang/Object;" .null) (G12 : Fld Z h0 ea "java/lang/Throwable" "detailMessage" "Ljava/lang/String;" .null) (G13 : Fld Z h0 ea "com/example/ordr/ordr/io/DotSyntaxException" "line" "I" (.int lv)) (G14 : Fld Z h0 ea "com/example/ordr/ordr/io/DotSyntaxException" "column" "I" (.int cv)) (G15 : n0 ≤ ea) :
    MetFree l (⟨"java/lang/Throwable", "<init>", "(Ljava/lang/String;)V"⟩ : MethodName) (head1 (Jvm.Cond.code (⟨"java/lang/Throwable", "<init>", "(Ljava/lang/String;)V"⟩ : MethodName) jdk_78_method_2_code 2 none :: ws) ({ frames := 3, cells := 1, slots := 2752, locals := 42 } : Room)) (fun a_ U_ => a_ = #[(.ref ea), (.ref ms)] ∧ Z.Warmed39 U_.vm ∧ U_.heap = h0) (fun _ _ b_ s_ _ => s_.vm.MethodsKnown ∧ s_.vm.FramesKnown b_) (fun _ U_ o_ V_ => ∃ v_ L_, o_ = .returned v_ ∧ Q_rm4 Z ea ms u1 u2 lv cv h0 n0 v_ V_.heap L_ ∧ FrameEnd U_ o_ V_ L_ ({ frames := 3, cells := 1, slots := 2752, locals := 42 } : Room).cells ({ frames := 3, cells := 1, slots := 2752, locals := 42 } : Room).slots) := by
  refine MetFree.of_bodySF (plainFor_of_name pn_4) hisR ?_
  intro p e s m args below meth c s₁ Bd hml0 hP hK
  obtain ⟨hTK, hBelow⟩ := hK
  obtain ⟨rfl, hZ, hh⟩ := hP
  have hx := Bd.exec
  have hby := Bd.bytes
  have hml : c.maxLocals = 2 := hml0
  have hown : s.vm.findClass "java/lang/Throwable" = some m.cls := findClass_of_methodNamed Bd.named
  have hnm := (name_of_methodNamed Bd.named Bd.method).1
  have hlk : meth.locks = false := Bd.notSynchronized
  have X0 : Stand p l e ({ frames := 3, cells := 1, slots := 2752, locals := 42 } : Room) s m #[(.ref ea), (.ref ms)] below meth c s₁ [] 0 0 := Stand.of_body Bd
  have e0 : s₁.heap = h0 := by rw [← hh, Bd.state]; rfl
  have N0 := Fr.nil n0
  have K0 := Keep.refl h0 [ea]
  refine Comes.out (Q := Q_rm4 Z ea ms u1 u2 lv cv h0 n0) (kc := ({ frames := 3, cells := 1, slots := 2752, locals := 42 } : Room).cells) (ks := ({ frames := 3, cells := 1, slots := 2752, locals := 42 } : Room).slots) ?_
  refine Comes.cast (ef_rm4 m ea ms) ?_
  have lt_ea : ea < h0.size := G6.lt
  have hR_u1 := G2
  have hR_u2 := G3
  show Comes p e below _ (s₁.setTop (mkF m 0 #[.val (.ref ea), .val (.ref ms)] []))
  refine Comes.st (fun t k => XS.aloadN X0.here hx rfl (hb hby d4_0) rfl rfl k) ?_
  show Comes p e below _ (s₁.setTop (mkF m 1 #[.val (.ref ea), .val (.ref ms)] [(.ref ea)]))
  obtain ⟨T1, X1, e1, st1⟩ := initO X0 hx hZ hown (hw _ (List.mem_of_getElem? (i := 32) rfl)) (hw _ (List.mem_of_getElem? (i := 33) rfl)) (hw _ (List.mem_of_getElem? (i := 34) rfl)) e0 (g := (mkF m 1 #[.val (.ref ea), .val (.ref ms)] [(.ref ea)])) rfl (by rw [hml]; rfl) rfl (hb hby d4_1) (by decide) (W := 0) (by show 2 * 0 + _ ≤ _; exact Nat.le_of_eq rfl) (by decide)
  refine Comes.st st1 ?_
  show Comes p e below _ (T1.setTop (mkF m 4 #[.val (.ref ea), .val (.ref ms)] []))
  refine Comes.st (fun t k => XS.aloadN X1.here hx rfl (hb hby d4_4) rfl rfl (XS.aloadN X1.here hx rfl (hb hby d4_5) rfl rfl k)) ?_
  show Comes p e below _ (T1.setTop (mkF m 6 #[.val (.ref ea), .val (.ref ms)] [(.ref ea), (.ref ea)]))
  obtain ⟨T2, h2, X2, e2, W2, st2⟩ := putF X1 hx hZ hown (host := "") (Or.inl (hw _ (List.mem_of_getElem? (i := 35) rfl))) Via.refl e1 G8 G6 (Or.inl (hw _ (List.mem_of_getElem? (i := 36) rfl))) (hw _ (List.mem_of_getElem? (i := 2) rfl)) (ty := (.object "java/lang/Throwable")) (by decide) rfl rfl (g := (mkF m 6 #[.val (.ref ea), .val (.ref ms)] [(.ref ea), (.ref ea)])) rfl rfl (hb hby d4_6)
  have Fw2 := G8.same W2
  have z2 : h2.size = h0.size := W2.size
  have gn3 : n0 ≤ ea := by omega
  have N2 := Fr.snoc X2 N0 gn3
  have K2 : Keep h0 h2 [ea] := K0.wr W2 (Or.inl (List.mem_of_getElem? (i := 0) rfl))
  refine Comes.st st2 ?_
  show Comes p e below _ (T2.setTop (mkF m 9 #[.val (.ref ea), .val (.ref ms)] []))
  refine Comes.st (fun t k => XS.aloadN X2.here hx rfl (hb hby d4_9) rfl rfl k) ?_
  show Comes p e below _ (T2.setTop (mkF m 10 #[.val (.ref ea), .val (.ref ms)] [(.ref ea)]))
  have Od4 : Old Z n0 h2 := (G4.wr W2 (by omega))
  obtain ⟨T5, X5, e5, st5⟩ := getS2 X2 hx hZ hown (host := "") (Or.inl (hw _ (List.mem_of_getElem? (i := 37) rfl))) Via.refl e2 (G0.ext Od4.2) (g := (mkF m 10 #[.val (.ref ea), .val (.ref ms)] [(.ref ea)])) rfl (hb hby d4_10)
  refine Comes.st st5 ?_
  show Comes p e below _ (T5.setTop (mkF m 13 #[.val (.ref ea), .val (.ref ms)] [u1, (.ref ea)]))
  have F6 : Exa Z h2 ea "com/example/ordr/ordr/io/DotSyntaxException" := (G6.wr W2)
  have F7 : Fld Z h2 ea "java/lang/Throwable" "stackTrace" "[Ljava/lang/StackTraceElement;" .null := (G9.other W2 (Or.inr (slot_ne (Or.inl (hw _ (List.mem_of_getElem? (i := 39) rfl))) (Or.inl (hw _ (List.mem_of_getElem? (i := 36) rfl))) (by decide) (t := (.array (.object "java/lang/StackTraceElement"))) (t' := (.object "java/lang/Throwable")) (by decide) (by decide))))
  obtain ⟨T8, h8, X8, e8, W8, st8⟩ := putF X5 hx hZ hown (host := "") (Or.inl (hw _ (List.mem_of_getElem? (i := 38) rfl))) Via.refl e5 F7 F6 (Or.inl (hw _ (List.mem_of_getElem? (i := 39) rfl))) (hw _ (List.mem_of_getElem? (i := 2) rfl)) (ty := (.array (.object "java/lang/StackTraceElement"))) (by decide) (by rcases ref_cases hR_u1 with q | ⟨y, q⟩ <;> rw [q] <;> rfl) (by rcases ref_cases hR_u1 with q | ⟨y, q⟩ <;> rw [q] <;> rfl) (g := (mkF m 13 #[.val (.ref ea), .val (.ref ms)] [u1, (.ref ea)])) rfl rfl (hb hby d4_13)
  have Fw8 := F7.same W8
  have z8 : h8.size = h2.size := W8.size
  have N8 := Fr.snoc X8 N2 gn3
  have K8 : Keep h0 h8 [ea] := K2.wr W8 (Or.inl (List.mem_of_getElem? (i := 0) rfl))
  refine Comes.st st8 ?_
  show Comes p e below _ (T8.setTop (mkF m 16 #[.val (.ref ea), .val (.ref ms)] []))
  refine Comes.st (fun t k => XS.aloadN X8.here hx rfl (hb hby d4_16) rfl rfl k) ?_
  show Comes p e below _ (T8.setTop (mkF m 17 #[.val (.ref ea), .val (.ref ms)] [(.ref ea)]))
  have Od9 : Old Z n0 h8 := (Od4.wr W8 (by omega))
  obtain ⟨T10, X10, e10, st10⟩ := getS2 X8 hx hZ hown (host := "") (Or.inl (hw _ (List.mem_of_getElem? (i := 40) rfl))) Via.refl e8 (G1.ext Od9.2) (g := (mkF m 17 #[.val (.ref ea), .val (.ref ms)] [(.ref ea)])) rfl (hb hby d4_17)
  refine Comes.st st10 ?_
  show Comes p e below _ (T10.setTop (mkF m 20 #[.val (.ref ea), .val (.ref ms)] [u2, (.ref ea)]))
  have F11 : Exa Z h8 ea "com/example/ordr/ordr/io/DotSyntaxException" := (F6.wr W8)
  have F12 : Fld Z h8 ea "java/lang/Throwable" "suppressedExceptions" "Ljava/util/List;" .null := ((G10.other W2 (Or.inr (slot_ne (Or.inl (hw _ (List.mem_of_getElem? (i := 42) rfl))) (Or.inl (hw _ (List.mem_of_getElem? (i := 36) rfl))) (by decide) (t := (.object "java/util/List")) (t' := (.object "java/lang/Throwable")) (by decide) (by decide)))).other W8 (Or.inr (slot_ne (Or.inl (hw _ (List.mem_of_getElem? (i := 42) rfl))) (Or.inl (hw _ (List.mem_of_getElem? (i := 39) rfl))) (by decide) (t := (.object "java/util/List")) (t' := (.array (.object "java/lang/StackTraceElement"))) (by decide) (by decide))))
  obtain ⟨T13, h13, X13, e13, W13, st13⟩ := putF X10 hx hZ hown (host := "") (Or.inl (hw _ (List.mem_of_getElem? (i := 41) rfl))) Via.refl e10 F12 F11 (Or.inl (hw _ (List.mem_of_getElem? (i := 42) rfl))) (hw _ (List.mem_of_getElem? (i := 2) rfl)) (ty := (.object "java/util/List")) (by decide) (by rcases ref_cases hR_u2 with q | ⟨y, q⟩ <;> rw [q] <;> rfl) (by rcases ref_cases hR_u2 with q | ⟨y, q⟩ <;> rw [q] <;> rfl) (g := (mkF m 20 #[.val (.ref ea), .val (.ref ms)] [u2, (.ref ea)])) rfl rfl (hb hby d4_20)
  have Fw13 := F12.same W13
  have z13 : h13.size = h8.size := W13.size
  have N13 := Fr.snoc X13 N8 gn3
  have K13 : Keep h0 h13 [ea] := K8.wr W13 (Or.inl (List.mem_of_getElem? (i := 0) rfl))
  refine Comes.st st13 ?_
  show Comes p e below _ (T13.setTop (mkF m 23 #[.val (.ref ea), .val (.ref ms)] []))
  refine Comes.st (fun t k => XS.aloadN X13.here hx rfl (hb hby d4_23) rfl rfl k) ?_
  show Comes p e below _ (T13.setTop (mkF m 24 #[.val (.ref ea), .val (.ref ms)] [(.ref ea)]))
  have F15 : Exa Z h13 ea "com/example/ordr/ordr/io/DotSyntaxException" := (F11.wr W13)
  have F16 : Unt h13 ea := (((G7.wr W2).wr W8).wr W13)
  have F17 : Fld Z h13 ea "java/lang/Throwable" "backtrace" "Ljava/lang/Object;" .null := (((G11.other W2 (Or.inr (slot_ne (Or.inl (hw _ (List.mem_of_getElem? (i := 67) rfl))) (Or.inl (hw _ (List.mem_of_getElem? (i := 36) rfl))) (by decide) (t := (.object "java/lang/Object")) (t' := (.object "java/lang/Throwable")) (by decide) (by decide)))).other W8 (Or.inr (slot_ne (Or.inl (hw _ (List.mem_of_getElem? (i := 67) rfl))) (Or.inl (hw _ (List.mem_of_getElem? (i := 39) rfl))) (by decide) (t := (.object "java/lang/Object")) (t' := (.array (.object "java/lang/StackTraceElement"))) (by decide) (by decide)))).other W13 (Or.inr (slot_ne (Or.inl (hw _ (List.mem_of_getElem? (i := 67) rfl))) (Or.inl (hw _ (List.mem_of_getElem? (i := 42) rfl))) (by decide) (t := (.object "java/lang/Object")) (t' := (.object "java/util/List")) (by decide) (by decide))))
  have F18 : Fld Z h13 ea "java/lang/Throwable" "stackTrace" "[Ljava/lang/StackTraceElement;" u1 := (Fw8.other W13 (Or.inr (slot_ne (Or.inl (hw _ (List.mem_of_getElem? (i := 39) rfl))) (Or.inl (hw _ (List.mem_of_getElem? (i := 42) rfl))) (by decide) (t := (.array (.object "java/lang/StackTraceElement"))) (t' := (.object "java/util/List")) (by decide) (by decide))))
  have Od19 : Old Z n0 h13 := (Od9.wr W13 (by omega))
  have th0 : ThS Z s.heap := fun _ _ _ _ _ _ _ q _ => by rw [hh]; exact G4.2.2 _ _ q
  have th1 : ThS Z h13 := fun _ _ _ _ _ _ _ q _ => Od19.2.2 _ _ q
  obtain ⟨T14, h14, X14, e14, Kp14, st14⟩ := own_fill X13 hx G5 hZ hown (rc := "com/example/ordr/ordr/io/DotSyntaxException") (own_hat hw) (hw _ (List.mem_of_getElem? (i := 2) rfl)) th0 th1 hTK hBelow e13 F15 F16 F17 hR_u1 F18 (G0.ext Od19.2) (fun x hx => by
      simp only [List.nil_append, List.mem_append, List.mem_singleton] at hx
      rcases hx with (rfl | rfl) | rfl
      · exact List.mem_of_getElem? (i := 0) rfl
      · exact List.mem_of_getElem? (i := 1) rfl
      · exact List.mem_of_getElem? (i := 2) rfl) (Ls := #[.val (.ref ea), .val (.ref ms)]) (by rw [hml]; rfl) (hb hby d4_24) (by decide) (by decide) (by decide) (by decide)
  rw [hh] at Kp14
  have z14 : h0.size ≤ h14.size := Kp14.1
  have K14 : Keep h0 h14 [ea] := keep_of_kp Kp14
  have N14 : Fr n0 (sixLocs Z ea) := (Fr.nil n0).six gn3
  have Od14 : Old Z n0 h14 := G4.keep K14 (allS gn3 all0)
  have Fe14 := Exa.kp Kp14 G6
  obtain ⟨vM, Fm14⟩ := fld_laid Fe14 (Unt.known (Unt.kp Kp14 G7)) (hw _ (List.mem_of_getElem? (i := 2) rfl)) (Or.inl (hw _ (List.mem_of_getElem? (i := 66) rfl)))
  have Fk14line := Fld.kp Kp14 G13 (Or.inr (own_six_ne (own_hat hw) (Or.inr (hw _ (List.mem_of_getElem? (i := 72) rfl))) (ty := .int) (by decide) (by decide)))
  have Fk14column := Fld.kp Kp14 G14 (Or.inr (own_six_ne (own_hat hw) (Or.inr (hw _ (List.mem_of_getElem? (i := 74) rfl))) (ty := .int) (by decide) (by decide)))
  refine Comes.go st14 ?_
  show Comes p e below _ (T14.setTop (mkF m 27 #[.val (.ref ea), .val (.ref ms)] [(.ref ea)]))
  refine Comes.st (fun t k => XS.pop X14.here hx rfl (hb hby d4_27) rfl rfl (XS.aloadN X14.here hx rfl (hb hby d4_28) rfl rfl (XS.aloadN X14.here hx rfl (hb hby d4_29) rfl rfl k))) ?_
  show Comes p e below _ (T14.setTop (mkF m 30 #[.val (.ref ea), .val (.ref ms)] [(.ref ms), (.ref ea)]))
  obtain ⟨T20, h20, X20, e20, W20, st20⟩ := putF X14 hx hZ hown (host := "") (Or.inl (hw _ (List.mem_of_getElem? (i := 70) rfl))) Via.refl e14 Fm14 Fe14 (Or.inl (hw _ (List.mem_of_getElem? (i := 66) rfl))) (hw _ (List.mem_of_getElem? (i := 2) rfl)) (ty := (.object "java/lang/String")) (by decide) rfl rfl (g := (mkF m 30 #[.val (.ref ea), .val (.ref ms)] [(.ref ms), (.ref ea)])) rfl rfl (hb hby d4_30)
  have Fw20 := Fm14.same W20
  have z20 : h20.size = h14.size := W20.size
  have N20 := Fr.snoc X20 N14 gn3
  have K20 : Keep h0 h20 [ea] := K14.wr W20 (Or.inl (List.mem_of_getElem? (i := 0) rfl))
  refine Comes.st st20 ?_
  show Comes p e below _ (T20.setTop (mkF m 33 #[.val (.ref ea), .val (.ref ms)] []))
  have F21 : Exa Z h20 ea "com/example/ordr/ordr/io/DotSyntaxException" := (Fe14.wr W20)
  have F22 : Fld Z h20 ea "com/example/ordr/ordr/io/DotSyntaxException" "line" "I" (.int lv) := (Fk14line.other W20 (Or.inr (slot_ne (Or.inr (hw _ (List.mem_of_getElem? (i := 72) rfl))) (Or.inl (hw _ (List.mem_of_getElem? (i := 66) rfl))) (by decide) (t := .int) (t' := (.object "java/lang/String")) (by decide) (by decide))))
  have F23 : Fld Z h20 ea "com/example/ordr/ordr/io/DotSyntaxException" "column" "I" (.int cv) := (Fk14column.other W20 (Or.inr (slot_ne (Or.inr (hw _ (List.mem_of_getElem? (i := 74) rfl))) (Or.inl (hw _ (List.mem_of_getElem? (i := 66) rfl))) (by decide) (t := .int) (t' := (.object "java/lang/String")) (by decide) (by decide))))
  exact Comes.ret0 X20 hx Bd.returns hlk (hb hby d4_33) e20 ⟨rfl, N20, K20, F21, F22, F23⟩ (by decide) (by decide)
def Q_rm3 (Z : State) (ea ms : Nat) (u1 u2 : Value) (lv cv : Int32) (h0 : Heap) (n0 : Nat) (v_ : Option Value) (h : Heap) (L_ : List Loc) : Prop := (v_ = none) ∧ (Fr n0 L_) ∧ (Keep h0 h [ea]) ∧ (Exa Z h ea "com/example/ordr/ordr/io/DotSyntaxException") ∧ (Fld Z h ea "com/example/ordr/ordr/io/DotSyntaxException" "line" "I" (.int lv)) ∧ (Fld Z h ea "com/example/ordr/ordr/io/DotSyntaxException" "column" "I" (.int cv))
set_option maxRecDepth 65536 in
set_option maxHeartbeats 40000000 in
theorem rm3 (l : Launch) (Z : State) (a0 : Array Value) (hw : ∀ d ∈ tables_1, d.before a0 Z = true) (ws : List Jvm.Cond) (ea ms : Nat) (u1 u2 : Value) (lv cv : Int32) (h0 : Heap) (n0 : Nat) (Z0 : n0 ≤ h0.size) (G0 : Sta Z Z.heap "java/lang/Throwable" "UNASSIGNED_STACK" "[Ljava/lang/StackTraceElement;" u1) (G1 : Sta Z Z.heap "java/lang/Throwable" "SUPPRESSED_SENTINEL" "Ljava/util/List;" u2) (G2 : u1.isRef = true) (G3 : u2.isRef = true) (G4 : Old Z n0 h0) (G5 : l.stackTraces = true) (G6 : Exa Z h0 ea "com/example/ordr/ordr/io/DotSyntaxException") (G7 : Unt h0 ea) (G8 : Fld Z h0 ea "java/lang/Throwable" "cause" "Ljava/lang/Throwable;" .null) (G9 : Fld Z h0 ea "java/lang/Throwable" "stackTrace" "[Ljava/lang/StackTraceElement;" .null) (G10 : Fld Z h0 ea "java/lang/Throwable" "suppressedExceptions" "Ljava/util/List;" .null) (G11 : Fld Z h0 ea "java/lang/Throwable" "backtrace" "Ljava/lang/Object;" .null) (G12 : Fld Z h0 ea "java/lang/Throwable" "detailMessage" "Ljava/lang/String;" .null) (G13 : Fld Z h0 ea "com/example/ordr/ordr/io/DotSyntaxException" "line" "I" (.int lv)) (G14 : Fld Z h0 ea "com/example/ordr/ordr/io/DotSyntaxException" "column" "I" (.int cv)) (G15 : n0 ≤ ea) :
    MetFree l (⟨"java/lang/Exception", "<init>", "(Ljava/lang/String;)V"⟩ : MethodName) (head1 (Jvm.Cond.code (⟨"java/lang/Exception", "<init>", "(Ljava/lang/String;)V"⟩ : MethodName) jdk_59_method_2_code 2 none :: ws) ({ frames := 4, cells := 1, slots := 2752, locals := 55 } : Room)) (fun a_ U_ => a_ = #[(.ref ea), (.ref ms)] ∧ Z.Warmed39 U_.vm ∧ U_.heap = h0) (fun _ _ b_ s_ _ => s_.vm.MethodsKnown ∧ s_.vm.FramesKnown b_) (fun _ U_ o_ V_ => ∃ v_ L_, o_ = .returned v_ ∧ Q_rm3 Z ea ms u1 u2 lv cv h0 n0 v_ V_.heap L_ ∧ FrameEnd U_ o_ V_ L_ ({ frames := 4, cells := 1, slots := 2752, locals := 55 } : Room).cells ({ frames := 4, cells := 1, slots := 2752, locals := 55 } : Room).slots) := by
  refine MetFree.of_bodySF (plainFor_of_name pn_3) hisR ?_
  intro p e s m args below meth c s₁ Bd hml0 hP hK
  obtain ⟨hTK, hBelow⟩ := hK
  obtain ⟨rfl, hZ, hh⟩ := hP
  have hx := Bd.exec
  have hby := Bd.bytes
  have hml : c.maxLocals = 2 := hml0
  have hown : s.vm.findClass "java/lang/Exception" = some m.cls := findClass_of_methodNamed Bd.named
  have hnm := (name_of_methodNamed Bd.named Bd.method).1
  have hlk : meth.locks = false := Bd.notSynchronized
  have X0 : Stand p l e ({ frames := 4, cells := 1, slots := 2752, locals := 55 } : Room) s m #[(.ref ea), (.ref ms)] below meth c s₁ [] 0 0 := Stand.of_body Bd
  have e0 : s₁.heap = h0 := by rw [← hh, Bd.state]; rfl
  have N0 := Fr.nil n0
  have K0 := Keep.refl h0 [ea]
  refine Comes.out (Q := Q_rm3 Z ea ms u1 u2 lv cv h0 n0) (kc := ({ frames := 4, cells := 1, slots := 2752, locals := 55 } : Room).cells) (ks := ({ frames := 4, cells := 1, slots := 2752, locals := 55 } : Room).slots) ?_
  refine Comes.cast (ef_rm3 m ea ms) ?_
  have lt_ea : ea < h0.size := G6.lt
  have hR_u1 := G2
  have hR_u2 := G3
  show Comes p e below _ (s₁.setTop (mkF m 0 #[.val (.ref ea), .val (.ref ms)] []))
  refine Comes.st (fun t k => XS.aloadN X0.here hx rfl (hb hby d3_0) rfl rfl (XS.aloadN X0.here hx rfl (hb hby d3_1) rfl rfl k)) ?_
  show Comes p e below _ (s₁.setTop (mkF m 2 #[.val (.ref ea), .val (.ref ms)] [(.ref ms), (.ref ea)]))
  obtain ⟨_, _, ⟨T1, L1, k1, n1⟩, -, X1, ⟨Lc1, hQ1, l1, y1, z1⟩, st1⟩ := X0.specialBack hx (y := (⟨"java/lang/Throwable", "<init>", "(Ljava/lang/String;)V"⟩ : MethodName)) rfl hown (mvT hZ (hw _ (List.mem_of_getElem? (i := 26) rfl))) (mvT hZ (hw _ (List.mem_of_getElem? (i := 27) rfl))) (mvT hZ (hw _ (List.mem_of_getElem? (i := 31) rfl))) (by decide) (backOfKL (W := 0) (rm4 l Z a0 hw [] ea ms u1 u2 lv cv h0 n0 (by omega)  G0 G1 (by assumption) (by assumption) G4 (by assumption) G6 G7 G8 G9 G10 G11 G12 G13 G14 (by omega)) hZ (hw _ (List.mem_of_getElem? (i := 31) rfl)) (hw _ (List.mem_of_getElem? (i := 30) rfl)) (by decide) (by decide) hTK hBelow) (g := (mkF m 2 #[.val (.ref ea), .val (.ref ms)] [(.ref ms), (.ref ea)])) rfl (by rw [hml]; rfl) (Steps.refl _) (a := ea) (argsL := [(.ref ms)]) (rest := []) (lenOf pd_0 rfl) rfl (by show 2 * 0 + _ ≤ _; exact Nat.le_of_eq rfl) (hb hby d3_2) (fun _ _ => ⟨rfl, e0, (by decide : 0 + 1 ≤ _), (by decide : 0 + 2752 ≤ _)⟩)
  dsimp only [Pt.U, Pt.locs, Pt.cells, Pt.slots] at X1 l1 y1 z1 st1 hQ1
  subst l1 y1 z1
  obtain ⟨rfl, Nq1, Kq1, P1_0, P1_1, P1_2⟩ := hQ1
  have N1 := Fr.app N0 Nq1
  have z1k : h0.size ≤ T1.heap.size := Kq1.1
  have K1 : Keep h0 T1.heap [ea] := K0.trans Kq1 (allS (Or.inl (List.mem_of_getElem? (i := 0) rfl)) all0)
  refine Comes.go st1 ?_
  show Comes p e below _ (T1.setTop (mkF m 5 #[.val (.ref ea), .val (.ref ms)] []))
  exact Comes.ret0 X1 hx Bd.returns hlk (hb hby d3_5) rfl ⟨rfl, N1, K1, P1_0, P1_1, P1_2⟩ (by decide) (by decide)
def Q_rm2 (Z : State) (ea ms : Nat) (u1 u2 : Value) (lv cv : Int32) (h0 : Heap) (n0 : Nat) (v_ : Option Value) (h : Heap) (L_ : List Loc) : Prop := (v_ = none) ∧ (Fr n0 L_) ∧ (Keep h0 h [ea]) ∧ (Exa Z h ea "com/example/ordr/ordr/io/DotSyntaxException") ∧ (Fld Z h ea "com/example/ordr/ordr/io/DotSyntaxException" "line" "I" (.int lv)) ∧ (Fld Z h ea "com/example/ordr/ordr/io/DotSyntaxException" "column" "I" (.int cv))
set_option maxRecDepth 65536 in
set_option maxHeartbeats 40000000 in
theorem rm2 (l : Launch) (Z : State) (a0 : Array Value) (hw : ∀ d ∈ tables_1, d.before a0 Z = true) (ws : List Jvm.Cond) (ea ms : Nat) (u1 u2 : Value) (lv cv : Int32) (h0 : Heap) (n0 : Nat) (Z0 : n0 ≤ h0.size) (G0 : Sta Z Z.heap "java/lang/Throwable" "UNASSIGNED_STACK" "[Ljava/lang/StackTraceElement;" u1) (G1 : Sta Z Z.heap "java/lang/Throwable" "SUPPRESSED_SENTINEL" "Ljava/util/List;" u2) (G2 : u1.isRef = true) (G3 : u2.isRef = true) (G4 : Old Z n0 h0) (G5 : l.stackTraces = true) (G6 : Exa Z h0 ea "com/example/ordr/ordr/io/DotSyntaxException") (G7 : Unt h0 ea) (G8 : Fld Z h0 ea "java/lang/Throwable" "cause" "Ljava/lang/Throwable;" .null) (G9 : Fld Z h0 ea "java/lang/Throwable" "stackTrace" "[Ljava/lang/StackTraceElement;" .null) (G10 : Fld Z h0 ea "java/lang/Throwable" "suppressedExceptions" "Ljava/util/List;" .null) (G11 : Fld Z h0 ea "java/lang/Throwable" "backtrace" "Ljava/lang/Object;" .null) (G12 : Fld Z h0 ea "java/lang/Throwable" "detailMessage" "Ljava/lang/String;" .null) (G13 : Fld Z h0 ea "com/example/ordr/ordr/io/DotSyntaxException" "line" "I" (.int lv)) (G14 : Fld Z h0 ea "com/example/ordr/ordr/io/DotSyntaxException" "column" "I" (.int cv)) (G15 : n0 ≤ ea) :
    MetFree l (⟨"java/io/IOException", "<init>", "(Ljava/lang/String;)V"⟩ : MethodName) (head1 (Jvm.Cond.code (⟨"java/io/IOException", "<init>", "(Ljava/lang/String;)V"⟩ : MethodName) jdk_131_method_2_code 2 none :: ws) ({ frames := 5, cells := 1, slots := 2752, locals := 68 } : Room)) (fun a_ U_ => a_ = #[(.ref ea), (.ref ms)] ∧ Z.Warmed39 U_.vm ∧ U_.heap = h0) (fun _ _ b_ s_ _ => s_.vm.MethodsKnown ∧ s_.vm.FramesKnown b_) (fun _ U_ o_ V_ => ∃ v_ L_, o_ = .returned v_ ∧ Q_rm2 Z ea ms u1 u2 lv cv h0 n0 v_ V_.heap L_ ∧ FrameEnd U_ o_ V_ L_ ({ frames := 5, cells := 1, slots := 2752, locals := 68 } : Room).cells ({ frames := 5, cells := 1, slots := 2752, locals := 68 } : Room).slots) := by
  refine MetFree.of_bodySF (plainFor_of_name pn_2) hisR ?_
  intro p e s m args below meth c s₁ Bd hml0 hP hK
  obtain ⟨hTK, hBelow⟩ := hK
  obtain ⟨rfl, hZ, hh⟩ := hP
  have hx := Bd.exec
  have hby := Bd.bytes
  have hml : c.maxLocals = 2 := hml0
  have hown : s.vm.findClass "java/io/IOException" = some m.cls := findClass_of_methodNamed Bd.named
  have hnm := (name_of_methodNamed Bd.named Bd.method).1
  have hlk : meth.locks = false := Bd.notSynchronized
  have X0 : Stand p l e ({ frames := 5, cells := 1, slots := 2752, locals := 68 } : Room) s m #[(.ref ea), (.ref ms)] below meth c s₁ [] 0 0 := Stand.of_body Bd
  have e0 : s₁.heap = h0 := by rw [← hh, Bd.state]; rfl
  have N0 := Fr.nil n0
  have K0 := Keep.refl h0 [ea]
  refine Comes.out (Q := Q_rm2 Z ea ms u1 u2 lv cv h0 n0) (kc := ({ frames := 5, cells := 1, slots := 2752, locals := 68 } : Room).cells) (ks := ({ frames := 5, cells := 1, slots := 2752, locals := 68 } : Room).slots) ?_
  refine Comes.cast (ef_rm2 m ea ms) ?_
  have lt_ea : ea < h0.size := G6.lt
  have hR_u1 := G2
  have hR_u2 := G3
  show Comes p e below _ (s₁.setTop (mkF m 0 #[.val (.ref ea), .val (.ref ms)] []))
  refine Comes.st (fun t k => XS.aloadN X0.here hx rfl (hb hby d2_0) rfl rfl (XS.aloadN X0.here hx rfl (hb hby d2_1) rfl rfl k)) ?_
  show Comes p e below _ (s₁.setTop (mkF m 2 #[.val (.ref ea), .val (.ref ms)] [(.ref ms), (.ref ea)]))
  obtain ⟨_, _, ⟨T1, L1, k1, n1⟩, -, X1, ⟨Lc1, hQ1, l1, y1, z1⟩, st1⟩ := X0.specialBack hx (y := (⟨"java/lang/Exception", "<init>", "(Ljava/lang/String;)V"⟩ : MethodName)) rfl hown (mvT hZ (hw _ (List.mem_of_getElem? (i := 20) rfl))) (mvT hZ (hw _ (List.mem_of_getElem? (i := 21) rfl))) (mvT hZ (hw _ (List.mem_of_getElem? (i := 25) rfl))) (by decide) (backOfKL (W := 0) (rm3 l Z a0 hw [] ea ms u1 u2 lv cv h0 n0 (by omega)  G0 G1 (by assumption) (by assumption) G4 (by assumption) G6 G7 G8 G9 G10 G11 G12 G13 G14 (by omega)) hZ (hw _ (List.mem_of_getElem? (i := 25) rfl)) (hw _ (List.mem_of_getElem? (i := 24) rfl)) (by decide) (by decide) hTK hBelow) (g := (mkF m 2 #[.val (.ref ea), .val (.ref ms)] [(.ref ms), (.ref ea)])) rfl (by rw [hml]; rfl) (Steps.refl _) (a := ea) (argsL := [(.ref ms)]) (rest := []) (lenOf pd_0 rfl) rfl (by show 2 * 0 + _ ≤ _; exact Nat.le_of_eq rfl) (hb hby d2_2) (fun _ _ => ⟨rfl, e0, (by decide : 0 + 1 ≤ _), (by decide : 0 + 2752 ≤ _)⟩)
  dsimp only [Pt.U, Pt.locs, Pt.cells, Pt.slots] at X1 l1 y1 z1 st1 hQ1
  subst l1 y1 z1
  obtain ⟨rfl, Nq1, Kq1, P1_0, P1_1, P1_2⟩ := hQ1
  have N1 := Fr.app N0 Nq1
  have z1k : h0.size ≤ T1.heap.size := Kq1.1
  have K1 : Keep h0 T1.heap [ea] := K0.trans Kq1 (allS (Or.inl (List.mem_of_getElem? (i := 0) rfl)) all0)
  refine Comes.go st1 ?_
  show Comes p e below _ (T1.setTop (mkF m 5 #[.val (.ref ea), .val (.ref ms)] []))
  exact Comes.ret0 X1 hx Bd.returns hlk (hb hby d2_5) rfl ⟨rfl, N1, K1, P1_0, P1_1, P1_2⟩ (by decide) (by decide)
def Q_rm1 (Z : State) (ea : Nat) (ln co : Int32) (ms : Nat) (u1 u2 : Value) (lv cv : Int32) (h0 : Heap) (n0 : Nat) (v_ : Option Value) (h : Heap) (L_ : List Loc) : Prop := (v_ = none) ∧ (Fr n0 L_) ∧ (Keep h0 h [ea]) ∧ (Exa Z h ea "com/example/ordr/ordr/io/DotSyntaxException") ∧ (Fld Z h ea "com/example/ordr/ordr/io/DotSyntaxException" "line" "I" (.int ln)) ∧ (Fld Z h ea "com/example/ordr/ordr/io/DotSyntaxException" "column" "I" (.int co))
set_option maxRecDepth 65536 in
set_option maxHeartbeats 40000000 in
theorem rm1 (l : Launch) (Z : State) (a0 : Array Value) (hw : ∀ d ∈ tables_1, d.before a0 Z = true) (ws : List Jvm.Cond) (ea : Nat) (ln co : Int32) (ms : Nat) (u1 u2 : Value) (lv cv : Int32) (h0 : Heap) (n0 : Nat) (Z0 : n0 ≤ h0.size) (G0 : Sta Z Z.heap "java/lang/Throwable" "UNASSIGNED_STACK" "[Ljava/lang/StackTraceElement;" u1) (G1 : Sta Z Z.heap "java/lang/Throwable" "SUPPRESSED_SENTINEL" "Ljava/util/List;" u2) (G2 : u1.isRef = true) (G3 : u2.isRef = true) (G4 : Old Z n0 h0) (G5 : l.stackTraces = true) (G6 : Exa Z h0 ea "com/example/ordr/ordr/io/DotSyntaxException") (G7 : Unt h0 ea) (G8 : Fld Z h0 ea "java/lang/Throwable" "cause" "Ljava/lang/Throwable;" .null) (G9 : Fld Z h0 ea "java/lang/Throwable" "stackTrace" "[Ljava/lang/StackTraceElement;" .null) (G10 : Fld Z h0 ea "java/lang/Throwable" "suppressedExceptions" "Ljava/util/List;" .null) (G11 : Fld Z h0 ea "java/lang/Throwable" "backtrace" "Ljava/lang/Object;" .null) (G12 : Fld Z h0 ea "java/lang/Throwable" "detailMessage" "Ljava/lang/String;" .null) (G13 : Fld Z h0 ea "com/example/ordr/ordr/io/DotSyntaxException" "line" "I" (.int lv)) (G14 : Fld Z h0 ea "com/example/ordr/ordr/io/DotSyntaxException" "column" "I" (.int cv)) (G15 : n0 ≤ ea) :
    MetFree l (⟨"com/example/ordr/ordr/io/DotSyntaxException", "<init>", "(IILjava/lang/String;)V"⟩ : MethodName) (head1 (Jvm.Cond.code (⟨"com/example/ordr/ordr/io/DotSyntaxException", "<init>", "(IILjava/lang/String;)V"⟩ : MethodName) prog_12_method_1_code 4 none :: ws) ({ frames := 6, cells := 1, slots := 2752, locals := 81 } : Room)) (fun a_ U_ => a_ = #[(.ref ea), (.int ln), (.int co), (.ref ms)] ∧ Z.Warmed39 U_.vm ∧ U_.heap = h0) (fun _ _ b_ s_ _ => s_.vm.MethodsKnown ∧ s_.vm.FramesKnown b_) (fun _ U_ o_ V_ => ∃ v_ L_, o_ = .returned v_ ∧ Q_rm1 Z ea ln co ms u1 u2 lv cv h0 n0 v_ V_.heap L_ ∧ FrameEnd U_ o_ V_ L_ ({ frames := 6, cells := 1, slots := 2752, locals := 81 } : Room).cells ({ frames := 6, cells := 1, slots := 2752, locals := 81 } : Room).slots) := by
  refine MetFree.of_bodySF (plainFor_of_name pn_1) hisR ?_
  intro p e s m args below meth c s₁ Bd hml0 hP hK
  obtain ⟨hTK, hBelow⟩ := hK
  obtain ⟨rfl, hZ, hh⟩ := hP
  have hx := Bd.exec
  have hby := Bd.bytes
  have hml : c.maxLocals = 4 := hml0
  have hown : s.vm.findClass "com/example/ordr/ordr/io/DotSyntaxException" = some m.cls := findClass_of_methodNamed Bd.named
  have hnm := (name_of_methodNamed Bd.named Bd.method).1
  have hlk : meth.locks = false := Bd.notSynchronized
  have X0 : Stand p l e ({ frames := 6, cells := 1, slots := 2752, locals := 81 } : Room) s m #[(.ref ea), (.int ln), (.int co), (.ref ms)] below meth c s₁ [] 0 0 := Stand.of_body Bd
  have e0 : s₁.heap = h0 := by rw [← hh, Bd.state]; rfl
  have N0 := Fr.nil n0
  have K0 := Keep.refl h0 [ea]
  refine Comes.out (Q := Q_rm1 Z ea ln co ms u1 u2 lv cv h0 n0) (kc := ({ frames := 6, cells := 1, slots := 2752, locals := 81 } : Room).cells) (ks := ({ frames := 6, cells := 1, slots := 2752, locals := 81 } : Room).slots) ?_
  refine Comes.cast (ef_rm1 m ea ln co ms) ?_
  have lt_ea : ea < h0.size := G6.lt
  have hR_u1 := G2
  have hR_u2 := G3
  show Comes p e below _ (s₁.setTop (mkF m 0 #[.val (.ref ea), .val (.int ln), .val (.int co), .val (.ref ms)] []))
  refine Comes.st (fun t k => XS.aloadN X0.here hx rfl (hb hby d1_0) rfl rfl (XS.aloadN X0.here hx rfl (hb hby d1_1) rfl rfl k)) ?_
  show Comes p e below _ (s₁.setTop (mkF m 2 #[.val (.ref ea), .val (.int ln), .val (.int co), .val (.ref ms)] [(.ref ms), (.ref ea)]))
  obtain ⟨_, _, ⟨T1, L1, k1, n1⟩, -, X1, ⟨Lc1, hQ1, l1, y1, z1⟩, st1⟩ := X0.specialBack hx (y := (⟨"java/io/IOException", "<init>", "(Ljava/lang/String;)V"⟩ : MethodName)) rfl hown (mvT hZ (hw _ (List.mem_of_getElem? (i := 15) rfl))) (mvT hZ (hw _ (List.mem_of_getElem? (i := 16) rfl))) (mvT hZ (hw _ (List.mem_of_getElem? (i := 19) rfl))) (by decide) (backOfKL (W := 0) (rm2 l Z a0 hw [] ea ms u1 u2 lv cv h0 n0 (by omega)  G0 G1 (by assumption) (by assumption) G4 (by assumption) G6 G7 G8 G9 G10 G11 G12 G13 G14 (by omega)) hZ (hw _ (List.mem_of_getElem? (i := 19) rfl)) (hw _ (List.mem_of_getElem? (i := 18) rfl)) (by decide) (by decide) hTK hBelow) (g := (mkF m 2 #[.val (.ref ea), .val (.int ln), .val (.int co), .val (.ref ms)] [(.ref ms), (.ref ea)])) rfl (by rw [hml]; rfl) (Steps.refl _) (a := ea) (argsL := [(.ref ms)]) (rest := []) (lenOf pd_0 rfl) rfl (by show 2 * 0 + _ ≤ _; exact Nat.le_of_eq rfl) (hb hby d1_2) (fun _ _ => ⟨rfl, e0, (by decide : 0 + 1 ≤ _), (by decide : 0 + 2752 ≤ _)⟩)
  dsimp only [Pt.U, Pt.locs, Pt.cells, Pt.slots] at X1 l1 y1 z1 st1 hQ1
  subst l1 y1 z1
  obtain ⟨rfl, Nq1, Kq1, P1_0, P1_1, P1_2⟩ := hQ1
  have N1 := Fr.app N0 Nq1
  have z1k : h0.size ≤ T1.heap.size := Kq1.1
  have K1 : Keep h0 T1.heap [ea] := K0.trans Kq1 (allS (Or.inl (List.mem_of_getElem? (i := 0) rfl)) all0)
  refine Comes.go st1 ?_
  show Comes p e below _ (T1.setTop (mkF m 5 #[.val (.ref ea), .val (.int ln), .val (.int co), .val (.ref ms)] []))
  refine Comes.st (fun t k => XS.aloadN X1.here hx rfl (hb hby d1_5) rfl rfl (XS.iloadN X1.here hx rfl (hb hby d1_6) rfl k)) ?_
  show Comes p e below _ (T1.setTop (mkF m 7 #[.val (.ref ea), .val (.int ln), .val (.int co), .val (.ref ms)] [(.int ln), (.ref ea)]))
  obtain ⟨T2, h2, X2, e2, W2, st2⟩ := putF X1 hx hZ hown (host := "") (Or.inl (hw _ (List.mem_of_getElem? (i := 71) rfl))) Via.refl rfl P1_1 P1_0 (Or.inr ⟨(hw _ (List.mem_of_getElem? (i := 72) rfl)), rfl, hnm⟩) (hw _ (List.mem_of_getElem? (i := 2) rfl)) (ty := .int) (by decide) rfl rfl (g := (mkF m 7 #[.val (.ref ea), .val (.int ln), .val (.int co), .val (.ref ms)] [(.int ln), (.ref ea)])) rfl rfl (hb hby d1_7)
  have Fw2 := P1_1.same W2
  have z2 : h2.size = T1.heap.size := W2.size
  have gn3 : n0 ≤ ea := by omega
  have N2 := Fr.snoc X2 N1 gn3
  have K2 : Keep h0 h2 [ea] := K1.wr W2 (Or.inl (List.mem_of_getElem? (i := 0) rfl))
  refine Comes.st st2 ?_
  show Comes p e below _ (T2.setTop (mkF m 10 #[.val (.ref ea), .val (.int ln), .val (.int co), .val (.ref ms)] []))
  refine Comes.st (fun t k => XS.aloadN X2.here hx rfl (hb hby d1_10) rfl rfl (XS.iloadN X2.here hx rfl (hb hby d1_11) rfl k)) ?_
  show Comes p e below _ (T2.setTop (mkF m 12 #[.val (.ref ea), .val (.int ln), .val (.int co), .val (.ref ms)] [(.int co), (.ref ea)]))
  have F4 : Exa Z h2 ea "com/example/ordr/ordr/io/DotSyntaxException" := (P1_0.wr W2)
  have F5 : Fld Z h2 ea "com/example/ordr/ordr/io/DotSyntaxException" "column" "I" (.int cv) := (P1_2.other W2 (Or.inr (slot_ne (Or.inr (hw _ (List.mem_of_getElem? (i := 74) rfl))) (Or.inr (hw _ (List.mem_of_getElem? (i := 72) rfl))) (by decide) (t := .int) (t' := .int) (by decide) (by decide))))
  obtain ⟨T6, h6, X6, e6, W6, st6⟩ := putF X2 hx hZ hown (host := "") (Or.inl (hw _ (List.mem_of_getElem? (i := 73) rfl))) Via.refl e2 F5 F4 (Or.inr ⟨(hw _ (List.mem_of_getElem? (i := 74) rfl)), rfl, hnm⟩) (hw _ (List.mem_of_getElem? (i := 2) rfl)) (ty := .int) (by decide) rfl rfl (g := (mkF m 12 #[.val (.ref ea), .val (.int ln), .val (.int co), .val (.ref ms)] [(.int co), (.ref ea)])) rfl rfl (hb hby d1_12)
  have Fw6 := F5.same W6
  have z6 : h6.size = h2.size := W6.size
  have N6 := Fr.snoc X6 N2 gn3
  have K6 : Keep h0 h6 [ea] := K2.wr W6 (Or.inl (List.mem_of_getElem? (i := 0) rfl))
  refine Comes.st st6 ?_
  show Comes p e below _ (T6.setTop (mkF m 15 #[.val (.ref ea), .val (.int ln), .val (.int co), .val (.ref ms)] []))
  have F7 : Exa Z h6 ea "com/example/ordr/ordr/io/DotSyntaxException" := (F4.wr W6)
  have F8 : Fld Z h6 ea "com/example/ordr/ordr/io/DotSyntaxException" "line" "I" (.int ln) := (Fw2.other W6 (Or.inr (slot_ne (Or.inr (hw _ (List.mem_of_getElem? (i := 72) rfl))) (Or.inr (hw _ (List.mem_of_getElem? (i := 74) rfl))) (by decide) (t := .int) (t' := .int) (by decide) (by decide))))
  exact Comes.ret0 X6 hx Bd.returns hlk (hb hby d1_15) e6 ⟨rfl, N6, K6, F7, F8, Fw6⟩ (by decide) (by decide)
def Q_rm8 (Z : State) (ea ms : Nat) (u1 u2 : Value) (lv cv : Int32) (h0 : Heap) (n0 : Nat) (v_ : Option Value) (h : Heap) (L_ : List Loc) : Prop := (v_ = none) ∧ (Fr n0 L_) ∧ (Keep h0 h [ea]) ∧ (Exa Z h ea "com/example/ordr/ordr/io/DotSyntaxException") ∧ (Fld Z h ea "com/example/ordr/ordr/io/DotSyntaxException" "line" "I" (.int (0 : Int32))) ∧ (Fld Z h ea "com/example/ordr/ordr/io/DotSyntaxException" "column" "I" (.int (0 : Int32)))
set_option maxRecDepth 65536 in
set_option maxHeartbeats 40000000 in
theorem rm8 (l : Launch) (Z : State) (a0 : Array Value) (hw : ∀ d ∈ tables_1, d.before a0 Z = true) (ws : List Jvm.Cond) (ea ms : Nat) (u1 u2 : Value) (lv cv : Int32) (h0 : Heap) (n0 : Nat) (Z0 : n0 ≤ h0.size) (G0 : Sta Z Z.heap "java/lang/Throwable" "UNASSIGNED_STACK" "[Ljava/lang/StackTraceElement;" u1) (G1 : Sta Z Z.heap "java/lang/Throwable" "SUPPRESSED_SENTINEL" "Ljava/util/List;" u2) (G2 : u1.isRef = true) (G3 : u2.isRef = true) (G4 : Old Z n0 h0) (G5 : l.stackTraces = true) (G6 : Exa Z h0 ea "com/example/ordr/ordr/io/DotSyntaxException") (G7 : Unt h0 ea) (G8 : Fld Z h0 ea "java/lang/Throwable" "cause" "Ljava/lang/Throwable;" .null) (G9 : Fld Z h0 ea "java/lang/Throwable" "stackTrace" "[Ljava/lang/StackTraceElement;" .null) (G10 : Fld Z h0 ea "java/lang/Throwable" "suppressedExceptions" "Ljava/util/List;" .null) (G11 : Fld Z h0 ea "java/lang/Throwable" "backtrace" "Ljava/lang/Object;" .null) (G12 : Fld Z h0 ea "java/lang/Throwable" "detailMessage" "Ljava/lang/String;" .null) (G13 : Fld Z h0 ea "com/example/ordr/ordr/io/DotSyntaxException" "line" "I" (.int lv)) (G14 : Fld Z h0 ea "com/example/ordr/ordr/io/DotSyntaxException" "column" "I" (.int cv)) (G15 : n0 ≤ ea) :
    MetFree l (⟨"com/example/ordr/ordr/io/DotSyntaxException", "<init>", "(Ljava/lang/String;)V"⟩ : MethodName) (head1 (Jvm.Cond.code (⟨"com/example/ordr/ordr/io/DotSyntaxException", "<init>", "(Ljava/lang/String;)V"⟩ : MethodName) prog_12_method_2_code 2 none :: ws) ({ frames := 7, cells := 1, slots := 2752, locals := 96 } : Room)) (fun a_ U_ => a_ = #[(.ref ea), (.ref ms)] ∧ Z.Warmed39 U_.vm ∧ U_.heap = h0) (fun _ _ b_ s_ _ => s_.vm.MethodsKnown ∧ s_.vm.FramesKnown b_) (fun _ U_ o_ V_ => ∃ v_ L_, o_ = .returned v_ ∧ Q_rm8 Z ea ms u1 u2 lv cv h0 n0 v_ V_.heap L_ ∧ FrameEnd U_ o_ V_ L_ ({ frames := 7, cells := 1, slots := 2752, locals := 96 } : Room).cells ({ frames := 7, cells := 1, slots := 2752, locals := 96 } : Room).slots) := by
  refine MetFree.of_bodySF (plainFor_of_name pn_8) hisR ?_
  intro p e s m args below meth c s₁ Bd hml0 hP hK
  obtain ⟨hTK, hBelow⟩ := hK
  obtain ⟨rfl, hZ, hh⟩ := hP
  have hx := Bd.exec
  have hby := Bd.bytes
  have hml : c.maxLocals = 2 := hml0
  have hown : s.vm.findClass "com/example/ordr/ordr/io/DotSyntaxException" = some m.cls := findClass_of_methodNamed Bd.named
  have hnm := (name_of_methodNamed Bd.named Bd.method).1
  have hlk : meth.locks = false := Bd.notSynchronized
  have X0 : Stand p l e ({ frames := 7, cells := 1, slots := 2752, locals := 96 } : Room) s m #[(.ref ea), (.ref ms)] below meth c s₁ [] 0 0 := Stand.of_body Bd
  have e0 : s₁.heap = h0 := by rw [← hh, Bd.state]; rfl
  have N0 := Fr.nil n0
  have K0 := Keep.refl h0 [ea]
  refine Comes.out (Q := Q_rm8 Z ea ms u1 u2 lv cv h0 n0) (kc := ({ frames := 7, cells := 1, slots := 2752, locals := 96 } : Room).cells) (ks := ({ frames := 7, cells := 1, slots := 2752, locals := 96 } : Room).slots) ?_
  refine Comes.cast (ef_rm8 m ea ms) ?_
  have lt_ea : ea < h0.size := G6.lt
  have hR_u1 := G2
  have hR_u2 := G3
  show Comes p e below _ (s₁.setTop (mkF m 0 #[.val (.ref ea), .val (.ref ms)] []))
  refine Comes.st (fun t k => XS.aloadN X0.here hx rfl (hb hby d8_0) rfl rfl (XS.iconst X0.here hx rfl (hb hby d8_1) (XS.iconst X0.here hx rfl (hb hby d8_2) (XS.aloadN X0.here hx rfl (hb hby d8_3) rfl rfl k)))) ?_
  show Comes p e below _ (s₁.setTop (mkF m 4 #[.val (.ref ea), .val (.ref ms)] [(.ref ms), (.int (0 : Int32)), (.int (0 : Int32)), (.ref ea)]))
  obtain ⟨_, _, ⟨T1, L1, k1, n1⟩, -, X1, ⟨Lc1, hQ1, l1, y1, z1⟩, st1⟩ := X0.specialBack hx (y := (⟨"com/example/ordr/ordr/io/DotSyntaxException", "<init>", "(IILjava/lang/String;)V"⟩ : MethodName)) rfl hown (mvT hZ (hw _ (List.mem_of_getElem? (i := 78) rfl))) (mvT hZ (hw _ (List.mem_of_getElem? (i := 13) rfl))) (mvT hZ (hw _ (List.mem_of_getElem? (i := 14) rfl))) (by decide) (backOfKL (W := 0) (rm1 l Z a0 hw [] ea ((0 : Int32)) ((0 : Int32)) ms u1 u2 lv cv h0 n0 (by omega)  G0 G1 (by assumption) (by assumption) G4 (by assumption) G6 G7 G8 G9 G10 G11 G12 G13 G14 (by omega)) hZ (hw _ (List.mem_of_getElem? (i := 14) rfl)) (hw _ (List.mem_of_getElem? (i := 3) rfl)) (by decide) (by decide) hTK hBelow) (g := (mkF m 4 #[.val (.ref ea), .val (.ref ms)] [(.ref ms), (.int (0 : Int32)), (.int (0 : Int32)), (.ref ea)])) rfl (by rw [hml]; rfl) (Steps.refl _) (a := ea) (argsL := [(.int (0 : Int32)), (.int (0 : Int32)), (.ref ms)]) (rest := []) (lenOf pd_1 rfl) rfl (by show 2 * 0 + _ ≤ _; exact Nat.le_of_eq rfl) (hb hby d8_4) (fun _ _ => ⟨rfl, e0, (by decide : 0 + 1 ≤ _), (by decide : 0 + 2752 ≤ _)⟩)
  dsimp only [Pt.U, Pt.locs, Pt.cells, Pt.slots] at X1 l1 y1 z1 st1 hQ1
  subst l1 y1 z1
  obtain ⟨rfl, Nq1, Kq1, P1_0, P1_1, P1_2⟩ := hQ1
  have N1 := Fr.app N0 Nq1
  have z1k : h0.size ≤ T1.heap.size := Kq1.1
  have K1 : Keep h0 T1.heap [ea] := K0.trans Kq1 (allS (Or.inl (List.mem_of_getElem? (i := 0) rfl)) all0)
  refine Comes.go st1 ?_
  show Comes p e below _ (T1.setTop (mkF m 7 #[.val (.ref ea), .val (.ref ms)] []))
  exact Comes.ret0 X1 hx Bd.returns hlk (hb hby d8_7) rfl ⟨rfl, N1, K1, P1_0, P1_1, P1_2⟩ (by decide) (by decide)
def Q_rm9 (Z : State) (ea : Nat) (lv : Int32) (h0 : Heap) (n0 : Nat) (v_ : Option Value) (h : Heap) (L_ : List Loc) : Prop := ∃ (r : Int32), (v_ = some (.int r)) ∧ (Fr n0 L_) ∧ (h = h0) ∧ (((0 : Int32) < lv ∧ r = (1 : Int32)) ∨ (¬ ((0 : Int32) < lv) ∧ r = (0 : Int32)))
set_option maxRecDepth 65536 in
set_option maxHeartbeats 40000000 in
theorem rm9 (l : Launch) (Z : State) (a0 : Array Value) (hw : ∀ d ∈ tables_1, d.before a0 Z = true) (ws : List Jvm.Cond) (ea : Nat) (lv : Int32) (h0 : Heap) (n0 : Nat) (Z0 : n0 ≤ h0.size) (G0 : Fld Z h0 ea "com/example/ordr/ordr/io/DotSyntaxException" "line" "I" (.int lv)) :
    MetFree l (⟨"com/example/ordr/ordr/io/DotSyntaxException", "hasPlace", "()Z"⟩ : MethodName) (head1 (Jvm.Cond.code (⟨"com/example/ordr/ordr/io/DotSyntaxException", "hasPlace", "()Z"⟩ : MethodName) prog_12_method_3_code 1 (some .boolean) :: ws) ({ frames := 0, cells := 0, slots := 0, locals := 0 } : Room)) (fun a_ U_ => a_ = #[(.ref ea)] ∧ Z.Warmed39 U_.vm ∧ U_.heap = h0) (fun _ _ _ _ _ => True) (fun _ U_ o_ V_ => ∃ v_ L_, o_ = .returned v_ ∧ Q_rm9 Z ea lv h0 n0 v_ V_.heap L_ ∧ FrameEnd U_ o_ V_ L_ ({ frames := 0, cells := 0, slots := 0, locals := 0 } : Room).cells ({ frames := 0, cells := 0, slots := 0, locals := 0 } : Room).slots) := by
  refine MetFree.of_bodySF (plainFor_of_name pn_9) hisR ?_
  intro p e s m args below meth c s₁ Bd hml0 hP hK
  obtain ⟨rfl, hZ, hh⟩ := hP
  have hx := Bd.exec
  have hby := Bd.bytes
  have hml : c.maxLocals = 1 := hml0
  have hown : s.vm.findClass "com/example/ordr/ordr/io/DotSyntaxException" = some m.cls := findClass_of_methodNamed Bd.named
  have hnm := (name_of_methodNamed Bd.named Bd.method).1
  have hlk : meth.locks = false := Bd.notSynchronized
  have X0 : Stand p l e ({ frames := 0, cells := 0, slots := 0, locals := 0 } : Room) s m #[(.ref ea)] below meth c s₁ [] 0 0 := Stand.of_body Bd
  have e0 : s₁.heap = h0 := by rw [← hh, Bd.state]; rfl
  have N0 := Fr.nil n0
  refine Comes.out (Q := Q_rm9 Z ea lv h0 n0) (kc := ({ frames := 0, cells := 0, slots := 0, locals := 0 } : Room).cells) (ks := ({ frames := 0, cells := 0, slots := 0, locals := 0 } : Room).slots) ?_
  refine Comes.cast (ef_rm9 m ea) ?_
  have lt_ea : ea < h0.size := G0.lt
  show Comes p e below _ (s₁.setTop (mkF m 0 #[.val (.ref ea)] []))
  refine Comes.st (fun t k => XS.aloadN X0.here hx rfl (hb hby d9_0) rfl rfl k) ?_
  show Comes p e below _ (s₁.setTop (mkF m 1 #[.val (.ref ea)] [(.ref ea)]))
  obtain ⟨T1, X1, e1, st1⟩ := getF X0 hx hZ hown (host := "") (Or.inl (hw _ (List.mem_of_getElem? (i := 71) rfl))) Via.refl e0 G0 (g := (mkF m 1 #[.val (.ref ea)] [(.ref ea)])) rfl rfl (hb hby d9_1)
  refine Comes.st st1 ?_
  show Comes p e below _ (T1.setTop (mkF m 4 #[.val (.ref ea)] [(.int lv)]))
  by_cases hc4_2 : (0 : Int32) < lv
  · refine Comes.st (fun t k => XS.ifNo X1.here hx rfl (hb hby d9_4) rfl ((if0 _ _).trans (tlt hc4_2).2.2.2) (XS.iconst X1.here hx rfl (hb hby d9_7) (XS.goto X1.here hx rfl (pc0 := 8) (pc' := 12) rfl (hb hby d9_8) (by decide) (by decide) k))) ?_
    show Comes p e below _ (T1.setTop (mkF m 12 #[.val (.ref ea)] [(.int (1 : Int32))]))
    exact Comes.retN X1 hx (t := .boolean) Bd.returns (by simp) hlk (hb hby d9_12) e1 ⟨(1 : Int32), rfl, N0, rfl, (by first | exact Or.inl ⟨by assumption, rfl⟩ | exact Or.inr ⟨by assumption, rfl⟩)⟩ (by decide) (by decide)
  · refine Comes.st (fun t k => XS.ifYes X1.here hx rfl (pc0 := 4) (pc' := 11) rfl (hb hby d9_4) rfl ((if0 _ _).trans (flt hc4_2).2.2.2) (by decide) (by decide) (XS.iconst X1.here hx rfl (hb hby d9_11) k)) ?_
    show Comes p e below _ (T1.setTop (mkF m 12 #[.val (.ref ea)] [(.int (0 : Int32))]))
    exact Comes.retN X1 hx (t := .boolean) Bd.returns (by simp) hlk (hb hby d9_12) e1 ⟨(0 : Int32), rfl, N0, rfl, (by first | exact Or.inl ⟨by assumption, rfl⟩ | exact Or.inr ⟨by assumption, rfl⟩)⟩ (by decide) (by decide)
def Q_rm10 (Z : State) (ea : Nat) (lv : Int32) (h0 : Heap) (n0 : Nat) (v_ : Option Value) (h : Heap) (L_ : List Loc) : Prop := (v_ = some (.int lv)) ∧ (Fr n0 L_) ∧ (h = h0)
set_option maxRecDepth 65536 in
set_option maxHeartbeats 40000000 in
theorem rm10 (l : Launch) (Z : State) (a0 : Array Value) (hw : ∀ d ∈ tables_1, d.before a0 Z = true) (ws : List Jvm.Cond) (ea : Nat) (lv : Int32) (h0 : Heap) (n0 : Nat) (Z0 : n0 ≤ h0.size) (G0 : Fld Z h0 ea "com/example/ordr/ordr/io/DotSyntaxException" "line" "I" (.int lv)) :
    MetFree l (⟨"com/example/ordr/ordr/io/DotSyntaxException", "line", "()I"⟩ : MethodName) (head1 (Jvm.Cond.code (⟨"com/example/ordr/ordr/io/DotSyntaxException", "line", "()I"⟩ : MethodName) prog_12_method_4_code 1 (some .int) :: ws) ({ frames := 0, cells := 0, slots := 0, locals := 0 } : Room)) (fun a_ U_ => a_ = #[(.ref ea)] ∧ Z.Warmed39 U_.vm ∧ U_.heap = h0) (fun _ _ _ _ _ => True) (fun _ U_ o_ V_ => ∃ v_ L_, o_ = .returned v_ ∧ Q_rm10 Z ea lv h0 n0 v_ V_.heap L_ ∧ FrameEnd U_ o_ V_ L_ ({ frames := 0, cells := 0, slots := 0, locals := 0 } : Room).cells ({ frames := 0, cells := 0, slots := 0, locals := 0 } : Room).slots) := by
  refine MetFree.of_bodySF (plainFor_of_name pn_10) hisR ?_
  intro p e s m args below meth c s₁ Bd hml0 hP hK
  obtain ⟨rfl, hZ, hh⟩ := hP
  have hx := Bd.exec
  have hby := Bd.bytes
  have hml : c.maxLocals = 1 := hml0
  have hown : s.vm.findClass "com/example/ordr/ordr/io/DotSyntaxException" = some m.cls := findClass_of_methodNamed Bd.named
  have hnm := (name_of_methodNamed Bd.named Bd.method).1
  have hlk : meth.locks = false := Bd.notSynchronized
  have X0 : Stand p l e ({ frames := 0, cells := 0, slots := 0, locals := 0 } : Room) s m #[(.ref ea)] below meth c s₁ [] 0 0 := Stand.of_body Bd
  have e0 : s₁.heap = h0 := by rw [← hh, Bd.state]; rfl
  have N0 := Fr.nil n0
  refine Comes.out (Q := Q_rm10 Z ea lv h0 n0) (kc := ({ frames := 0, cells := 0, slots := 0, locals := 0 } : Room).cells) (ks := ({ frames := 0, cells := 0, slots := 0, locals := 0 } : Room).slots) ?_
  refine Comes.cast (ef_rm10 m ea) ?_
  have lt_ea : ea < h0.size := G0.lt
  show Comes p e below _ (s₁.setTop (mkF m 0 #[.val (.ref ea)] []))
  refine Comes.st (fun t k => XS.aloadN X0.here hx rfl (hb hby d10_0) rfl rfl k) ?_
  show Comes p e below _ (s₁.setTop (mkF m 1 #[.val (.ref ea)] [(.ref ea)]))
  obtain ⟨T1, X1, e1, st1⟩ := getF X0 hx hZ hown (host := "") (Or.inl (hw _ (List.mem_of_getElem? (i := 71) rfl))) Via.refl e0 G0 (g := (mkF m 1 #[.val (.ref ea)] [(.ref ea)])) rfl rfl (hb hby d10_1)
  refine Comes.st st1 ?_
  show Comes p e below _ (T1.setTop (mkF m 4 #[.val (.ref ea)] [(.int lv)]))
  exact Comes.retV X1 hx Bd.returns rfl (Or.inl ⟨rfl, Or.inl rfl, _, rfl⟩) hlk (hb hby d10_4) e1 ⟨rfl, N0, rfl⟩ (by decide) (by decide)
def Q_rm11 (Z : State) (ea : Nat) (cv : Int32) (h0 : Heap) (n0 : Nat) (v_ : Option Value) (h : Heap) (L_ : List Loc) : Prop := (v_ = some (.int cv)) ∧ (Fr n0 L_) ∧ (h = h0)
set_option maxRecDepth 65536 in
set_option maxHeartbeats 40000000 in
theorem rm11 (l : Launch) (Z : State) (a0 : Array Value) (hw : ∀ d ∈ tables_1, d.before a0 Z = true) (ws : List Jvm.Cond) (ea : Nat) (cv : Int32) (h0 : Heap) (n0 : Nat) (Z0 : n0 ≤ h0.size) (G0 : Fld Z h0 ea "com/example/ordr/ordr/io/DotSyntaxException" "column" "I" (.int cv)) :
    MetFree l (⟨"com/example/ordr/ordr/io/DotSyntaxException", "column", "()I"⟩ : MethodName) (head1 (Jvm.Cond.code (⟨"com/example/ordr/ordr/io/DotSyntaxException", "column", "()I"⟩ : MethodName) prog_12_method_5_code 1 (some .int) :: ws) ({ frames := 0, cells := 0, slots := 0, locals := 0 } : Room)) (fun a_ U_ => a_ = #[(.ref ea)] ∧ Z.Warmed39 U_.vm ∧ U_.heap = h0) (fun _ _ _ _ _ => True) (fun _ U_ o_ V_ => ∃ v_ L_, o_ = .returned v_ ∧ Q_rm11 Z ea cv h0 n0 v_ V_.heap L_ ∧ FrameEnd U_ o_ V_ L_ ({ frames := 0, cells := 0, slots := 0, locals := 0 } : Room).cells ({ frames := 0, cells := 0, slots := 0, locals := 0 } : Room).slots) := by
  refine MetFree.of_bodySF (plainFor_of_name pn_11) hisR ?_
  intro p e s m args below meth c s₁ Bd hml0 hP hK
  obtain ⟨rfl, hZ, hh⟩ := hP
  have hx := Bd.exec
  have hby := Bd.bytes
  have hml : c.maxLocals = 1 := hml0
  have hown : s.vm.findClass "com/example/ordr/ordr/io/DotSyntaxException" = some m.cls := findClass_of_methodNamed Bd.named
  have hnm := (name_of_methodNamed Bd.named Bd.method).1
  have hlk : meth.locks = false := Bd.notSynchronized
  have X0 : Stand p l e ({ frames := 0, cells := 0, slots := 0, locals := 0 } : Room) s m #[(.ref ea)] below meth c s₁ [] 0 0 := Stand.of_body Bd
  have e0 : s₁.heap = h0 := by rw [← hh, Bd.state]; rfl
  have N0 := Fr.nil n0
  refine Comes.out (Q := Q_rm11 Z ea cv h0 n0) (kc := ({ frames := 0, cells := 0, slots := 0, locals := 0 } : Room).cells) (ks := ({ frames := 0, cells := 0, slots := 0, locals := 0 } : Room).slots) ?_
  refine Comes.cast (ef_rm11 m ea) ?_
  have lt_ea : ea < h0.size := G0.lt
  show Comes p e below _ (s₁.setTop (mkF m 0 #[.val (.ref ea)] []))
  refine Comes.st (fun t k => XS.aloadN X0.here hx rfl (hb hby d11_0) rfl rfl k) ?_
  show Comes p e below _ (s₁.setTop (mkF m 1 #[.val (.ref ea)] [(.ref ea)]))
  obtain ⟨T1, X1, e1, st1⟩ := getF X0 hx hZ hown (host := "") (Or.inl (hw _ (List.mem_of_getElem? (i := 73) rfl))) Via.refl e0 G0 (g := (mkF m 1 #[.val (.ref ea)] [(.ref ea)])) rfl rfl (hb hby d11_1)
  refine Comes.st st1 ?_
  show Comes p e below _ (T1.setTop (mkF m 4 #[.val (.ref ea)] [(.int cv)]))
  exact Comes.retV X1 hx Bd.returns rfl (Or.inl ⟨rfl, Or.inl rfl, _, rfl⟩) hlk (hb hby d11_4) e1 ⟨rfl, N0, rfl⟩ (by decide) (by decide)
def Q_rm0 (Z : State) (ln co : Int32) (u1 u2 : Value) (h0 : Heap) (n0 : Nat) (v_ : Option Value) (h : Heap) (L_ : List Loc) : Prop := (v_ = some (.int (1 : Int32))) ∧ (Fr n0 L_)
set_option maxRecDepth 65536 in
set_option maxHeartbeats 40000000 in
theorem rm0 (l : Launch) (Z : State) (a0 : Array Value) (hw : ∀ d ∈ tables_1, d.before a0 Z = true) (ws : List Jvm.Cond) (ln co : Int32) (u1 u2 : Value) (h0 : Heap) (n0 : Nat) (Z0 : n0 ≤ h0.size) (G0 : Sta Z Z.heap "java/lang/Throwable" "UNASSIGNED_STACK" "[Ljava/lang/StackTraceElement;" u1) (G1 : Sta Z Z.heap "java/lang/Throwable" "SUPPRESSED_SENTINEL" "Ljava/util/List;" u2) (G2 : u1.isRef = true) (G3 : u2.isRef = true) (G4 : Old Z n0 h0) (G5 : l.stackTraces = true) :
    MetFree l x (head1 (Jvm.Cond.code x code maxLocals ret :: ws) room_1) (fun a_ U_ => a_ = #[(.int ln), (.int co)] ∧ Z.Warmed39 U_.vm ∧ U_.heap = h0) (fun _ _ b_ s_ _ => s_.vm.MethodsKnown ∧ s_.vm.FramesKnown b_) (fun _ U_ o_ V_ => ∃ v_ L_, o_ = .returned v_ ∧ Q_rm0 Z ln co u1 u2 h0 n0 v_ V_.heap L_ ∧ ReturnedEndW U_ o_ V_ L_ room_1.cells room_1.slots) := by
  refine MetFree.of_bodySF (plainFor_of_name pn_0) hisR ?_
  intro p e s m args below meth c s₁ Bd hml0 hP hK
  obtain ⟨hTK, hBelow⟩ := hK
  obtain ⟨rfl, hZ, hh⟩ := hP
  have hx := Bd.exec
  have hby := Bd.bytes
  have hml : c.maxLocals = 6 := hml0
  have hown : s.vm.findClass "com/example/ordr/ordr/io/DotSyntaxExceptionHasPlacePinLaw" = some m.cls := findClass_of_methodNamed Bd.named
  have hnm := (name_of_methodNamed Bd.named Bd.method).1
  have hlk : meth.locks = false := Bd.notSynchronized
  have X0 : Stand p l e room_1 s m #[(.int ln), (.int co)] below meth c s₁ [] 0 0 := Stand.of_body Bd
  have e0 : s₁.heap = h0 := by rw [← hh, Bd.state]; rfl
  have N0 := Fr.nil n0
  have hTK0 := hTK
  have hBelow0 := hBelow
  have hS0 : s.Since s.vm 0 := (State.WarmedH.refl s).since 0
  refine Comes.outW (Q := Q_rm0 Z ln co u1 u2 h0 n0) (kc := room_1.cells) (ks := room_1.slots) ?_
  refine Comes.cast (ef_rm0 m ln co) ?_
  have hR_u1 := G2
  have hR_u2 := G3
  show Comes p e below _ (s₁.setTop (mkF m 0 #[.val (.int ln), .val (.int co), .unset, .unset, .unset, .unset] []))
  refine Comes.st (fun t k => XS.iloadN X0.here hx rfl (hb hby at_0) rfl (X0.ldcInt hx hown (mvT hZ (hw _ (List.mem_of_getElem? (i := 0) rfl))) (g := (mkF m 1 #[.val (.int ln), .val (.int co), .unset, .unset, .unset, .unset] [(.int ln)])) rfl (hb hby at_1) _ (XS.iand X0.here hx rfl (hb hby at_3) rfl k))) ?_
  show Comes p e below _ (s₁.setTop (mkF m 4 #[.val (.int ln), .val (.int co), .unset, .unset, .unset, .unset] [(.int (ln &&& (2147483647 : Int32)))]))
  generalize hv_v1 : (ln &&& (2147483647 : Int32)) = v1
  show Comes p e below _ (s₁.setTop (mkF m 4 #[.val (.int ln), .val (.int co), .unset, .unset, .unset, .unset] [(.int v1)]))
  refine Comes.st (fun t k => XS.istoreN X0.here hx rfl (hb hby at_4) rfl (l' := #[.val (.int ln), .val (.int co), .val (.int v1), .unset, .unset, .unset]) rfl k) ?_
  show Comes p e below _ (s₁.setTop (mkF m 5 #[.val (.int ln), .val (.int co), .val (.int v1), .unset, .unset, .unset] []))
  obtain ⟨T2, h2, X2, e2, E2, A2, D2, U2, st2⟩ := newO X0 hx hZ hown (hw _ (List.mem_of_getElem? (i := 1) rfl)) (hw _ (List.mem_of_getElem? (i := 2) rfl)) (hw _ (List.mem_of_getElem? (i := 3) rfl)) e0 (g := (mkF m 5 #[.val (.int ln), .val (.int co), .val (.int v1), .unset, .unset, .unset] [])) rfl (hb hby at_5) (by decide) (by decide)
  obtain ⟨b2, g2⟩ : ∃ z, z = h0.size := ⟨_, rfl⟩
  rw [← g2] at A2 D2 U2 st2
  have z2 : h0.size ≤ h2.size := E2.1
  have lt2 : b2 < h2.size := A2.lt
  have Un2 : Unt h2 b2 := U2
  have F3 : Fld Z h2 b2 "java/lang/Throwable" "cause" "Ljava/lang/Throwable;" .null := D2 (Or.inl (hw _ (List.mem_of_getElem? (i := 36) rfl))) (ty := (.object "java/lang/Throwable")) (by decide)
  have F4 : Fld Z h2 b2 "java/lang/Throwable" "stackTrace" "[Ljava/lang/StackTraceElement;" .null := D2 (Or.inl (hw _ (List.mem_of_getElem? (i := 39) rfl))) (ty := (.array (.object "java/lang/StackTraceElement"))) (by decide)
  have F5 : Fld Z h2 b2 "java/lang/Throwable" "suppressedExceptions" "Ljava/util/List;" .null := D2 (Or.inl (hw _ (List.mem_of_getElem? (i := 42) rfl))) (ty := (.object "java/util/List")) (by decide)
  have F6 : Fld Z h2 b2 "java/lang/Throwable" "detailMessage" "Ljava/lang/String;" .null := D2 (Or.inl (hw _ (List.mem_of_getElem? (i := 66) rfl))) (ty := (.object "java/lang/String")) (by decide)
  have F7 : Fld Z h2 b2 "java/lang/Throwable" "backtrace" "Ljava/lang/Object;" .null := D2 (Or.inl (hw _ (List.mem_of_getElem? (i := 67) rfl))) (ty := (.object "java/lang/Object")) (by decide)
  have F8 : Fld Z h2 b2 "java/lang/Throwable" "depth" "I" (.int (0 : Int32)) := D2 (Or.inl (hw _ (List.mem_of_getElem? (i := 68) rfl))) (ty := .int) (by decide)
  have F9 : Fld Z h2 b2 "com/example/ordr/ordr/io/DotSyntaxException" "line" "I" (.int (0 : Int32)) := D2 (Or.inr (hw _ (List.mem_of_getElem? (i := 72) rfl))) (ty := .int) (by decide)
  have F10 : Fld Z h2 b2 "com/example/ordr/ordr/io/DotSyntaxException" "column" "I" (.int (0 : Int32)) := D2 (Or.inr (hw _ (List.mem_of_getElem? (i := 74) rfl))) (ty := .int) (by decide)
  refine Comes.st st2 ?_
  show Comes p e below _ (T2.setTop (mkF m 8 #[.val (.int ln), .val (.int co), .val (.int v1), .unset, .unset, .unset] [(.ref b2)]))
  refine Comes.st (fun t k => XS.dup X2.here hx rfl (hb hby at_8) rfl rfl (XS.iloadN X2.here hx rfl (hb hby at_9) rfl (XS.iloadN X2.here hx rfl (hb hby at_10) rfl k))) ?_
  obtain ⟨b11, T11, h11, k11, X11, e11, E11, hS11, hk11, hZ, hown, st11⟩ := ldcS (s := s) (vm0 := s.vm) X2 hx hZ hown (hw _ (List.mem_of_getElem? (i := 4) rfl)) (fun d hd => by simp only [Bundle.stringAtoms, List.mem_cons, List.not_mem_nil, or_false] at hd; rcases hd with rfl | rfl | rfl | rfl | rfl | rfl | rfl; exact hw _ (List.mem_of_getElem? (i := 5) rfl); exact hw _ (List.mem_of_getElem? (i := 6) rfl); exact hw _ (List.mem_of_getElem? (i := 7) rfl); exact hw _ (List.mem_of_getElem? (i := 8) rfl); exact hw _ (List.mem_of_getElem? (i := 9) rfl); exact hw _ (List.mem_of_getElem? (i := 10) rfl); exact hw _ (List.mem_of_getElem? (i := 11) rfl)) e2 hS0 (Nat.zero_le _) (g := (mkF m 11 #[.val (.int ln), .val (.int co), .val (.int v1), .unset, .unset, .unset] [(.int co), (.int v1), (.ref b2), (.ref b2)])) rfl (hb hby at_11) (n := 4) (by decide) (by decide) (by decide) (by decide)
  have z11 : h2.size ≤ h11.size := E11.1
  refine Comes.st st11 ?_
  have hTK := Vm.MethodsKnown.alikeC hS11.1.alike hTK0
  have hBelow := Vm.FramesKnown.alikeC hS11.1.alike hBelow0
  show Comes p e below _ (T11.setTop (mkF m 13 #[.val (.int ln), .val (.int co), .val (.int v1), .unset, .unset, .unset] [(.ref b11), (.int co), (.int v1), (.ref b2), (.ref b2)]))
  have Od12 : Old Z n0 h11 := ((G4.ext E2).ext E11)
  have F13 : Exa Z h11 b2 "com/example/ordr/ordr/io/DotSyntaxException" := (A2.ext E11)
  have F14 : Unt h11 b2 := (Un2.ext E11)
  have F15 : Fld Z h11 b2 "java/lang/Throwable" "cause" "Ljava/lang/Throwable;" .null := (F3.ext E11)
  have F16 : Fld Z h11 b2 "java/lang/Throwable" "stackTrace" "[Ljava/lang/StackTraceElement;" .null := (F4.ext E11)
  have F17 : Fld Z h11 b2 "java/lang/Throwable" "suppressedExceptions" "Ljava/util/List;" .null := (F5.ext E11)
  have F18 : Fld Z h11 b2 "java/lang/Throwable" "backtrace" "Ljava/lang/Object;" .null := (F7.ext E11)
  have F19 : Fld Z h11 b2 "java/lang/Throwable" "detailMessage" "Ljava/lang/String;" .null := (F6.ext E11)
  have F20 : Fld Z h11 b2 "com/example/ordr/ordr/io/DotSyntaxException" "line" "I" (.int (0 : Int32)) := (F9.ext E11)
  have F21 : Fld Z h11 b2 "com/example/ordr/ordr/io/DotSyntaxException" "column" "I" (.int (0 : Int32)) := (F10.ext E11)
  obtain ⟨_, _, ⟨T22, L22, k22, n22⟩, -, X22, ⟨Lc22, hQ22, l22, y22, z22⟩, st22⟩ := X11.specialBack hx (y := (⟨"com/example/ordr/ordr/io/DotSyntaxException", "<init>", "(IILjava/lang/String;)V"⟩ : MethodName)) rfl hown (mvT hZ (hw _ (List.mem_of_getElem? (i := 12) rfl))) (mvT hZ (hw _ (List.mem_of_getElem? (i := 13) rfl))) (mvT hZ (hw _ (List.mem_of_getElem? (i := 14) rfl))) (by decide) (backOfKL (W := 1) (rm1 l Z a0 hw [] b2 v1 co b11 u1 u2 ((0 : Int32)) ((0 : Int32)) h11 n0 (by omega)  G0 G1 (by assumption) (by assumption) Od12 (by assumption) F13 F14 F15 F16 F17 F18 F19 F20 F21 (by omega)) hZ (hw _ (List.mem_of_getElem? (i := 14) rfl)) (hw _ (List.mem_of_getElem? (i := 3) rfl)) (by decide) (by decide) hTK hBelow) (g := (mkF m 13 #[.val (.int ln), .val (.int co), .val (.int v1), .unset, .unset, .unset] [(.ref b11), (.int co), (.int v1), (.ref b2), (.ref b2)])) rfl (by rw [hml]; rfl) (Steps.refl _) (a := b2) (argsL := [(.int v1), (.int co), (.ref b11)]) (rest := [(.ref b2)]) (lenOf pd_1 rfl) rfl (by show 2 * 0 + _ ≤ _; exact Nat.le_of_eq rfl) (hb hby at_13) (fun _ _ => ⟨rfl, e11, (by decide : 3 + 1 ≤ _), (by decide : 16 + 2752 ≤ _)⟩)
  dsimp only [Pt.U, Pt.locs, Pt.cells, Pt.slots] at X22 l22 y22 z22 st22 hQ22
  subst l22 y22 z22
  obtain ⟨rfl, Nq22, Kq22, P22_0, P22_1, P22_2⟩ := hQ22
  have N22 := Fr.app N0 Nq22
  have z22k : h11.size ≤ T22.heap.size := Kq22.1
  refine Comes.go st22 ?_
  have lt_23 : b2 < T22.heap.size := P22_0.lt
  show Comes p e below _ (T22.setTop (mkF m 16 #[.val (.int ln), .val (.int co), .val (.int v1), .unset, .unset, .unset] [(.ref b2)]))
  refine Comes.st (fun t k => XS.astoreN X22.here hx rfl (hb hby at_16) rfl rfl (l' := #[.val (.int ln), .val (.int co), .val (.int v1), .val (.ref b2), .unset, .unset]) rfl k) ?_
  show Comes p e below _ (T22.setTop (mkF m 17 #[.val (.int ln), .val (.int co), .val (.int v1), .val (.ref b2), .unset, .unset] []))
  obtain ⟨T24, h24, X24, e24, E24, A24, D24, U24, st24⟩ := newO X22 hx hZ hown (hw _ (List.mem_of_getElem? (i := 1) rfl)) (hw _ (List.mem_of_getElem? (i := 2) rfl)) (hw _ (List.mem_of_getElem? (i := 3) rfl)) rfl (g := (mkF m 17 #[.val (.int ln), .val (.int co), .val (.int v1), .val (.ref b2), .unset, .unset] [])) rfl (hb hby at_17) (by decide) (by decide)
  obtain ⟨b24, g24⟩ : ∃ z, z = T22.heap.size := ⟨_, rfl⟩
  rw [← g24] at A24 D24 U24 st24
  have z24 : T22.heap.size ≤ h24.size := E24.1
  have lt24 : b24 < h24.size := A24.lt
  have Un24 : Unt h24 b24 := U24
  have F25 : Fld Z h24 b24 "java/lang/Throwable" "cause" "Ljava/lang/Throwable;" .null := D24 (Or.inl (hw _ (List.mem_of_getElem? (i := 36) rfl))) (ty := (.object "java/lang/Throwable")) (by decide)
  have F26 : Fld Z h24 b24 "java/lang/Throwable" "stackTrace" "[Ljava/lang/StackTraceElement;" .null := D24 (Or.inl (hw _ (List.mem_of_getElem? (i := 39) rfl))) (ty := (.array (.object "java/lang/StackTraceElement"))) (by decide)
  have F27 : Fld Z h24 b24 "java/lang/Throwable" "suppressedExceptions" "Ljava/util/List;" .null := D24 (Or.inl (hw _ (List.mem_of_getElem? (i := 42) rfl))) (ty := (.object "java/util/List")) (by decide)
  have F28 : Fld Z h24 b24 "java/lang/Throwable" "detailMessage" "Ljava/lang/String;" .null := D24 (Or.inl (hw _ (List.mem_of_getElem? (i := 66) rfl))) (ty := (.object "java/lang/String")) (by decide)
  have F29 : Fld Z h24 b24 "java/lang/Throwable" "backtrace" "Ljava/lang/Object;" .null := D24 (Or.inl (hw _ (List.mem_of_getElem? (i := 67) rfl))) (ty := (.object "java/lang/Object")) (by decide)
  have F30 : Fld Z h24 b24 "java/lang/Throwable" "depth" "I" (.int (0 : Int32)) := D24 (Or.inl (hw _ (List.mem_of_getElem? (i := 68) rfl))) (ty := .int) (by decide)
  have F31 : Fld Z h24 b24 "com/example/ordr/ordr/io/DotSyntaxException" "line" "I" (.int (0 : Int32)) := D24 (Or.inr (hw _ (List.mem_of_getElem? (i := 72) rfl))) (ty := .int) (by decide)
  have F32 : Fld Z h24 b24 "com/example/ordr/ordr/io/DotSyntaxException" "column" "I" (.int (0 : Int32)) := D24 (Or.inr (hw _ (List.mem_of_getElem? (i := 74) rfl))) (ty := .int) (by decide)
  refine Comes.st st24 ?_
  show Comes p e below _ (T24.setTop (mkF m 20 #[.val (.int ln), .val (.int co), .val (.int v1), .val (.ref b2), .unset, .unset] [(.ref b24)]))
  refine Comes.st (fun t k => XS.dup X24.here hx rfl (hb hby at_20) rfl rfl k) ?_
  obtain ⟨b33, T33, h33, k33, X33, e33, E33, hS33, hk33, hZ, hown, st33⟩ := ldcS (s := s) (vm0 := T11.vm) X24 hx hZ hown (hw _ (List.mem_of_getElem? (i := 4) rfl)) (fun d hd => by simp only [Bundle.stringAtoms, List.mem_cons, List.not_mem_nil, or_false] at hd; rcases hd with rfl | rfl | rfl | rfl | rfl | rfl | rfl; exact hw _ (List.mem_of_getElem? (i := 5) rfl); exact hw _ (List.mem_of_getElem? (i := 6) rfl); exact hw _ (List.mem_of_getElem? (i := 7) rfl); exact hw _ (List.mem_of_getElem? (i := 8) rfl); exact hw _ (List.mem_of_getElem? (i := 9) rfl); exact hw _ (List.mem_of_getElem? (i := 10) rfl); exact hw _ (List.mem_of_getElem? (i := 11) rfl)) e24 hS11 (by omega) (g := (mkF m 21 #[.val (.int ln), .val (.int co), .val (.int v1), .val (.ref b2), .unset, .unset] [(.ref b24), (.ref b24)])) rfl (hb hby at_21) (n := 4) (by decide) (by decide) (by decide) (by decide)
  have z33 : h24.size ≤ h33.size := E33.1
  refine Comes.st st33 ?_
  have hTK := Vm.MethodsKnown.alikeC hS33.1.alike hTK0
  have hBelow := Vm.FramesKnown.alikeC hS33.1.alike hBelow0
  show Comes p e below _ (T33.setTop (mkF m 23 #[.val (.int ln), .val (.int co), .val (.int v1), .val (.ref b2), .unset, .unset] [(.ref b33), (.ref b24), (.ref b24)]))
  have Od34 : Old Z n0 h33 := (((Od12.keep Kq22 (allS (by omega) all0)).ext E24).ext E33)
  have F35 : Exa Z h33 b24 "com/example/ordr/ordr/io/DotSyntaxException" := (A24.ext E33)
  have F36 : Unt h33 b24 := (Un24.ext E33)
  have F37 : Fld Z h33 b24 "java/lang/Throwable" "cause" "Ljava/lang/Throwable;" .null := (F25.ext E33)
  have F38 : Fld Z h33 b24 "java/lang/Throwable" "stackTrace" "[Ljava/lang/StackTraceElement;" .null := (F26.ext E33)
  have F39 : Fld Z h33 b24 "java/lang/Throwable" "suppressedExceptions" "Ljava/util/List;" .null := (F27.ext E33)
  have F40 : Fld Z h33 b24 "java/lang/Throwable" "backtrace" "Ljava/lang/Object;" .null := (F29.ext E33)
  have F41 : Fld Z h33 b24 "java/lang/Throwable" "detailMessage" "Ljava/lang/String;" .null := (F28.ext E33)
  have F42 : Fld Z h33 b24 "com/example/ordr/ordr/io/DotSyntaxException" "line" "I" (.int (0 : Int32)) := (F31.ext E33)
  have F43 : Fld Z h33 b24 "com/example/ordr/ordr/io/DotSyntaxException" "column" "I" (.int (0 : Int32)) := (F32.ext E33)
  obtain ⟨_, _, ⟨T44, L44, k44, n44⟩, -, X44, ⟨Lc44, hQ44, l44, y44, z44⟩, st44⟩ := X33.specialBack hx (y := (⟨"com/example/ordr/ordr/io/DotSyntaxException", "<init>", "(Ljava/lang/String;)V"⟩ : MethodName)) rfl hown (mvT hZ (hw _ (List.mem_of_getElem? (i := 75) rfl))) (mvT hZ (hw _ (List.mem_of_getElem? (i := 76) rfl))) (mvT hZ (hw _ (List.mem_of_getElem? (i := 77) rfl))) (by decide) (backOfKL (W := 1) (rm8 l Z a0 hw [] b24 b33 u1 u2 ((0 : Int32)) ((0 : Int32)) h33 n0 (by omega)  G0 G1 (by assumption) (by assumption) Od34 (by assumption) F35 F36 F37 F38 F39 F40 F41 F42 F43 (by omega)) hZ (hw _ (List.mem_of_getElem? (i := 77) rfl)) (hw _ (List.mem_of_getElem? (i := 3) rfl)) (by decide) (by decide) hTK hBelow) (g := (mkF m 23 #[.val (.int ln), .val (.int co), .val (.int v1), .val (.ref b2), .unset, .unset] [(.ref b33), (.ref b24), (.ref b24)])) rfl (by rw [hml]; rfl) (Steps.refl _) (a := b24) (argsL := [(.ref b33)]) (rest := [(.ref b24)]) (lenOf pd_0 rfl) rfl (by show 2 * 0 + _ ≤ _; exact Nat.le_of_eq rfl) (hb hby at_23) (fun _ _ => ⟨rfl, e33, (by decide : 7 + 1 ≤ _), (by decide : 2784 + 2752 ≤ _)⟩)
  dsimp only [Pt.U, Pt.locs, Pt.cells, Pt.slots] at X44 l44 y44 z44 st44 hQ44
  subst l44 y44 z44
  obtain ⟨rfl, Nq44, Kq44, P44_0, P44_1, P44_2⟩ := hQ44
  have N44 := Fr.app N22 Nq44
  have z44k : h33.size ≤ T44.heap.size := Kq44.1
  refine Comes.go st44 ?_
  have lt_45 : b24 < T44.heap.size := P44_0.lt
  show Comes p e below _ (T44.setTop (mkF m 26 #[.val (.int ln), .val (.int co), .val (.int v1), .val (.ref b2), .unset, .unset] [(.ref b24)]))
  refine Comes.st (fun t k => XS.astore X44.here hx rfl (hb hby at_26) rfl rfl (l' := #[.val (.int ln), .val (.int co), .val (.int v1), .val (.ref b2), .val (.ref b24), .unset]) rfl (XS.iloadN X44.here hx rfl (hb hby at_28) rfl k)) ?_
  show Comes p e below _ (T44.setTop (mkF m 29 #[.val (.int ln), .val (.int co), .val (.int v1), .val (.ref b2), .val (.ref b24), .unset] [(.int v1)]))
  by_cases hc29_46 : v1 = (0 : Int32)
  · refine Comes.st (fun t k => XS.ifYes X44.here hx rfl (pc0 := 29) (pc' := 36) rfl (hb hby at_29) rfl ((if0 _ _).trans (teq hc29_46).1) (by decide) (by decide) (XS.iconst X44.here hx rfl (hb hby at_36) (XS.istore X44.here hx rfl (hb hby at_37) rfl (l' := #[.val (.int ln), .val (.int co), .val (.int v1), .val (.ref b2), .val (.ref b24), .val (.int (0 : Int32))]) rfl (XS.aloadN X44.here hx rfl (hb hby at_39) rfl rfl k)))) ?_
    show Comes p e below _ (T44.setTop (mkF m 40 #[.val (.int ln), .val (.int co), .val (.int v1), .val (.ref b2), .val (.ref b24), .val (.int (0 : Int32))] [(.ref b2)]))
    have ne47 : b2 ≠ b24 := by omega
    have F48 : Fld Z T44.heap b2 "com/example/ordr/ordr/io/DotSyntaxException" "line" "I" (.int v1) := (((P22_1.ext E24).ext E33).keep Kq44 (ninS ne47 nin0))
    have F50 : Exa Z T44.heap b2 "com/example/ordr/ordr/io/DotSyntaxException" := (((P22_0.ext E24).ext E33).keep Kq44)
    obtain ⟨cq49, kq49, q49a, q49b, q49c⟩ := isOf hZ rfl F50
    obtain ⟨_, _, ⟨T49, L49, k49, n49⟩, -, X49, ⟨Lc49, hQ49, l49, y49, z49⟩, st49⟩ := X44.virtualBack hx (y := (⟨"com/example/ordr/ordr/io/DotSyntaxException", "hasPlace", "()Z"⟩ : MethodName)) (z := (⟨"com/example/ordr/ordr/io/DotSyntaxException", "hasPlace", "()Z"⟩ : MethodName)) hown (mvT hZ (hw _ (List.mem_of_getElem? (i := 79) rfl))) (mvT hZ (hw _ (List.mem_of_getElem? (i := 80) rfl))) (notFace_of_selects (args := #[]) (mvT hZ (hw _ (List.mem_of_getElem? (i := 82) rfl)))) (mvT hZ (hw _ (List.mem_of_getElem? (i := 82) rfl))) (mvT hZ (hw _ (List.mem_of_getElem? (i := 81) rfl))) (by decide) (backOf (W := 0) (rm9 l Z a0 hw [] b2 v1 T44.heap n0 (by omega)  F48) hZ (hw _ (List.mem_of_getElem? (i := 83) rfl)) (hw _ (List.mem_of_getElem? (i := 3) rfl)) (by decide) (by decide)) q49a q49c (g := (mkF m 40 #[.val (.int ln), .val (.int co), .val (.int v1), .val (.ref b2), .val (.ref b24), .val (.int (0 : Int32))] [(.ref b2)])) rfl (by rw [hml]; rfl) (Steps.refl _) (argsL := []) (rest := []) (lenOf pd_2 rfl) rfl (by show 2 * 0 + _ ≤ _; exact Nat.le_of_eq rfl) (hb hby at_40) (fun _ _ => ⟨rfl, rfl, (by decide : 8 + 0 ≤ _), (by decide : 5536 + 0 ≤ _)⟩)
    dsimp only [Pt.U, Pt.locs, Pt.cells, Pt.slots] at X49 l49 y49 z49 st49 hQ49
    subst l49 y49 z49
    obtain ⟨r51, rfl, Nq49, hs49, P49_0⟩ := hQ49
    have N49 := Fr.app N44 Nq49
    refine Comes.go st49 ?_
    show Comes p e below _ (T49.setTop (mkF m 43 #[.val (.int ln), .val (.int co), .val (.int v1), .val (.ref b2), .val (.ref b24), .val (.int (0 : Int32))] [(.int r51)]))
    refine Comes.st (fun t k => XS.iload X49.here hx rfl (hb hby at_43) rfl k) ?_
    show Comes p e below _ (T49.setTop (mkF m 45 #[.val (.int ln), .val (.int co), .val (.int v1), .val (.ref b2), .val (.ref b24), .val (.int (0 : Int32))] [(.int (0 : Int32)), (.int r51)]))
    have hc45_52 : r51 = (0 : Int32) := by have a_0 := c_mask ln (2147483647 : Int32) 31 (by decide) (by decide); rw [hv_v1] at a_0; have a_1 := rng32 ln; have a_2 := rng32 v1; have c_0 := hc29_46; have c_1 := P49_0; (try simp only [Int32.lt_iff_toInt_lt, Int64.lt_iff_toInt_lt, ← Int32.toInt_inj, ← Int64.toInt_inj, Int32.reduceToInt, Int64.reduceToInt, eq_self, and_true, true_and, or_true, true_or, and_false, false_and, or_false, false_or, not_true_eq_false, not_false_eq_true] at a_0 a_1 a_2 c_0 c_1 ⊢) <;> omega
    refine Comes.st (fun t k => XS.icmpNo X49.here hx rfl (hb hby at_45) rfl (teq hc45_52).2 (XS.aload X49.here hx rfl (hb hby at_48) rfl rfl k)) ?_
    show Comes p e below _ (T49.setTop (mkF m 50 #[.val (.int ln), .val (.int co), .val (.int v1), .val (.ref b2), .val (.ref b24), .val (.int (0 : Int32))] [(.ref b24)]))
    obtain ⟨cq53, kq53, q53a, q53b, q53c⟩ := isOf hZ hs49 P44_0
    obtain ⟨_, _, ⟨T53, L53, k53, n53⟩, -, X53, ⟨Lc53, hQ53, l53, y53, z53⟩, st53⟩ := X49.virtualBack hx (y := (⟨"com/example/ordr/ordr/io/DotSyntaxException", "hasPlace", "()Z"⟩ : MethodName)) (z := (⟨"com/example/ordr/ordr/io/DotSyntaxException", "hasPlace", "()Z"⟩ : MethodName)) hown (mvT hZ (hw _ (List.mem_of_getElem? (i := 79) rfl))) (mvT hZ (hw _ (List.mem_of_getElem? (i := 80) rfl))) (notFace_of_selects (args := #[]) (mvT hZ (hw _ (List.mem_of_getElem? (i := 82) rfl)))) (mvT hZ (hw _ (List.mem_of_getElem? (i := 82) rfl))) (mvT hZ (hw _ (List.mem_of_getElem? (i := 81) rfl))) (by decide) (backOf (W := 0) (rm9 l Z a0 hw [] b24 ((0 : Int32)) T44.heap n0 (by omega)  P44_1) hZ (hw _ (List.mem_of_getElem? (i := 83) rfl)) (hw _ (List.mem_of_getElem? (i := 3) rfl)) (by decide) (by decide)) q53a q53c (g := (mkF m 50 #[.val (.int ln), .val (.int co), .val (.int v1), .val (.ref b2), .val (.ref b24), .val (.int (0 : Int32))] [(.ref b24)])) rfl (by rw [hml]; rfl) (Steps.refl _) (argsL := []) (rest := []) (lenOf pd_2 rfl) rfl (by show 2 * 0 + _ ≤ _; exact Nat.le_of_eq rfl) (hb hby at_50) (fun _ _ => ⟨rfl, hs49, (by decide : 8 + 0 ≤ _), (by decide : 5536 + 0 ≤ _)⟩)
    dsimp only [Pt.U, Pt.locs, Pt.cells, Pt.slots] at X53 l53 y53 z53 st53 hQ53
    subst l53 y53 z53
    obtain ⟨r54, rfl, Nq53, hs53, P53_0⟩ := hQ53
    have N53 := Fr.app N49 Nq53
    refine Comes.go st53 ?_
    show Comes p e below _ (T53.setTop (mkF m 53 #[.val (.int ln), .val (.int co), .val (.int v1), .val (.ref b2), .val (.ref b24), .val (.int (0 : Int32))] [(.int r54)]))
    have hc53_55 : r54 = (0 : Int32) := by have a_0 := c_mask ln (2147483647 : Int32) 31 (by decide) (by decide); rw [hv_v1] at a_0; have a_1 := rng32 ln; have a_2 := rng32 v1; have c_0 := hc29_46; have c_1 := hc45_52; have c_2 := P49_0; have c_3 := P53_0; (try simp only [Int32.lt_iff_toInt_lt, Int64.lt_iff_toInt_lt, ← Int32.toInt_inj, ← Int64.toInt_inj, Int32.reduceToInt, Int64.reduceToInt, eq_self, and_true, true_and, or_true, true_or, and_false, false_and, or_false, false_or, not_true_eq_false, not_false_eq_true] at a_0 a_1 a_2 c_0 c_1 c_2 c_3 ⊢) <;> omega
    refine Comes.st (fun t k => XS.ifNo X53.here hx rfl (hb hby at_53) rfl ((if0 _ _).trans (teq hc53_55).2) (XS.aloadN X53.here hx rfl (hb hby at_56) rfl rfl k)) ?_
    show Comes p e below _ (T53.setTop (mkF m 57 #[.val (.int ln), .val (.int co), .val (.int v1), .val (.ref b2), .val (.ref b24), .val (.int (0 : Int32))] [(.ref b2)]))
    obtain ⟨cq56, kq56, q56a, q56b, q56c⟩ := isOf hZ hs53 F50
    obtain ⟨_, _, ⟨T56, L56, k56, n56⟩, -, X56, ⟨Lc56, hQ56, l56, y56, z56⟩, st56⟩ := X53.virtualBack hx (y := (⟨"com/example/ordr/ordr/io/DotSyntaxException", "line", "()I"⟩ : MethodName)) (z := (⟨"com/example/ordr/ordr/io/DotSyntaxException", "line", "()I"⟩ : MethodName)) hown (mvT hZ (hw _ (List.mem_of_getElem? (i := 84) rfl))) (mvT hZ (hw _ (List.mem_of_getElem? (i := 85) rfl))) (notFace_of_selects (args := #[]) (mvT hZ (hw _ (List.mem_of_getElem? (i := 87) rfl)))) (mvT hZ (hw _ (List.mem_of_getElem? (i := 87) rfl))) (mvT hZ (hw _ (List.mem_of_getElem? (i := 86) rfl))) (by decide) (backOf (W := 0) (rm10 l Z a0 hw [] b2 v1 T44.heap n0 (by omega)  F48) hZ (hw _ (List.mem_of_getElem? (i := 88) rfl)) (hw _ (List.mem_of_getElem? (i := 3) rfl)) (by decide) (by decide)) q56a q56c (g := (mkF m 57 #[.val (.int ln), .val (.int co), .val (.int v1), .val (.ref b2), .val (.ref b24), .val (.int (0 : Int32))] [(.ref b2)])) rfl (by rw [hml]; rfl) (Steps.refl _) (argsL := []) (rest := []) (lenOf pd_3 rfl) rfl (by show 2 * 0 + _ ≤ _; exact Nat.le_of_eq rfl) (hb hby at_57) (fun _ _ => ⟨rfl, hs53, (by decide : 8 + 0 ≤ _), (by decide : 5536 + 0 ≤ _)⟩)
    dsimp only [Pt.U, Pt.locs, Pt.cells, Pt.slots] at X56 l56 y56 z56 st56 hQ56
    subst l56 y56 z56
    obtain ⟨rfl, Nq56, hs56⟩ := hQ56
    have N56 := Fr.app N53 Nq56
    refine Comes.go st56 ?_
    show Comes p e below _ (T56.setTop (mkF m 60 #[.val (.int ln), .val (.int co), .val (.int v1), .val (.ref b2), .val (.ref b24), .val (.int (0 : Int32))] [(.int v1)]))
    refine Comes.st (fun t k => XS.iloadN X56.here hx rfl (hb hby at_60) rfl k) ?_
    show Comes p e below _ (T56.setTop (mkF m 61 #[.val (.int ln), .val (.int co), .val (.int v1), .val (.ref b2), .val (.ref b24), .val (.int (0 : Int32))] [(.int v1), (.int v1)]))
    have hc61_57 : v1 = v1 := by rfl
    refine Comes.st (fun t k => XS.icmpNo X56.here hx rfl (hb hby at_61) rfl (teq hc61_57).2 (XS.aloadN X56.here hx rfl (hb hby at_64) rfl rfl k)) ?_
    show Comes p e below _ (T56.setTop (mkF m 65 #[.val (.int ln), .val (.int co), .val (.int v1), .val (.ref b2), .val (.ref b24), .val (.int (0 : Int32))] [(.ref b2)]))
    have F58 : Fld Z T44.heap b2 "com/example/ordr/ordr/io/DotSyntaxException" "column" "I" (.int co) := (((P22_2.ext E24).ext E33).keep Kq44 (ninS ne47 nin0))
    obtain ⟨cq59, kq59, q59a, q59b, q59c⟩ := isOf hZ hs56 F50
    obtain ⟨_, _, ⟨T59, L59, k59, n59⟩, -, X59, ⟨Lc59, hQ59, l59, y59, z59⟩, st59⟩ := X56.virtualBack hx (y := (⟨"com/example/ordr/ordr/io/DotSyntaxException", "column", "()I"⟩ : MethodName)) (z := (⟨"com/example/ordr/ordr/io/DotSyntaxException", "column", "()I"⟩ : MethodName)) hown (mvT hZ (hw _ (List.mem_of_getElem? (i := 89) rfl))) (mvT hZ (hw _ (List.mem_of_getElem? (i := 90) rfl))) (notFace_of_selects (args := #[]) (mvT hZ (hw _ (List.mem_of_getElem? (i := 92) rfl)))) (mvT hZ (hw _ (List.mem_of_getElem? (i := 92) rfl))) (mvT hZ (hw _ (List.mem_of_getElem? (i := 91) rfl))) (by decide) (backOf (W := 0) (rm11 l Z a0 hw [] b2 co T44.heap n0 (by omega)  F58) hZ (hw _ (List.mem_of_getElem? (i := 93) rfl)) (hw _ (List.mem_of_getElem? (i := 3) rfl)) (by decide) (by decide)) q59a q59c (g := (mkF m 65 #[.val (.int ln), .val (.int co), .val (.int v1), .val (.ref b2), .val (.ref b24), .val (.int (0 : Int32))] [(.ref b2)])) rfl (by rw [hml]; rfl) (Steps.refl _) (argsL := []) (rest := []) (lenOf pd_3 rfl) rfl (by show 2 * 0 + _ ≤ _; exact Nat.le_of_eq rfl) (hb hby at_65) (fun _ _ => ⟨rfl, hs56, (by decide : 8 + 0 ≤ _), (by decide : 5536 + 0 ≤ _)⟩)
    dsimp only [Pt.U, Pt.locs, Pt.cells, Pt.slots] at X59 l59 y59 z59 st59 hQ59
    subst l59 y59 z59
    obtain ⟨rfl, Nq59, hs59⟩ := hQ59
    have N59 := Fr.app N56 Nq59
    refine Comes.go st59 ?_
    show Comes p e below _ (T59.setTop (mkF m 68 #[.val (.int ln), .val (.int co), .val (.int v1), .val (.ref b2), .val (.ref b24), .val (.int (0 : Int32))] [(.int co)]))
    refine Comes.st (fun t k => XS.iloadN X59.here hx rfl (hb hby at_68) rfl k) ?_
    show Comes p e below _ (T59.setTop (mkF m 69 #[.val (.int ln), .val (.int co), .val (.int v1), .val (.ref b2), .val (.ref b24), .val (.int (0 : Int32))] [(.int co), (.int co)]))
    have hc69_60 : co = co := by rfl
    refine Comes.st (fun t k => XS.icmpNo X59.here hx rfl (hb hby at_69) rfl (teq hc69_60).2 (XS.iconst X59.here hx rfl (hb hby at_72) (XS.goto X59.here hx rfl (pc0 := 73) (pc' := 77) rfl (hb hby at_73) (by decide) (by decide) k))) ?_
    show Comes p e below _ (T59.setTop (mkF m 77 #[.val (.int ln), .val (.int co), .val (.int v1), .val (.ref b2), .val (.ref b24), .val (.int (0 : Int32))] [(.int (1 : Int32))]))
    have hkf : k33 ≤ T44.heap.size := by omega
    exact Comes.wretN X59 hx (t := .boolean) Bd.returns (by simp) hlk (hb hby at_77) hS33 hkf hs59 ⟨rfl, N59⟩ (by decide) (by decide)
  · refine Comes.st (fun t k => XS.ifNo X44.here hx rfl (hb hby at_29) rfl ((if0 _ _).trans (feq hc29_46).1) (XS.iconst X44.here hx rfl (hb hby at_32) (XS.goto X44.here hx rfl (pc0 := 33) (pc' := 37) rfl (hb hby at_33) (by decide) (by decide) (XS.istore X44.here hx rfl (hb hby at_37) rfl (l' := #[.val (.int ln), .val (.int co), .val (.int v1), .val (.ref b2), .val (.ref b24), .val (.int (1 : Int32))]) rfl (XS.aloadN X44.here hx rfl (hb hby at_39) rfl rfl k))))) ?_
    show Comes p e below _ (T44.setTop (mkF m 40 #[.val (.int ln), .val (.int co), .val (.int v1), .val (.ref b2), .val (.ref b24), .val (.int (1 : Int32))] [(.ref b2)]))
    have ne61 : b2 ≠ b24 := by omega
    have F62 : Fld Z T44.heap b2 "com/example/ordr/ordr/io/DotSyntaxException" "line" "I" (.int v1) := (((P22_1.ext E24).ext E33).keep Kq44 (ninS ne61 nin0))
    have F64 : Exa Z T44.heap b2 "com/example/ordr/ordr/io/DotSyntaxException" := (((P22_0.ext E24).ext E33).keep Kq44)
    obtain ⟨cq63, kq63, q63a, q63b, q63c⟩ := isOf hZ rfl F64
    obtain ⟨_, _, ⟨T63, L63, k63, n63⟩, -, X63, ⟨Lc63, hQ63, l63, y63, z63⟩, st63⟩ := X44.virtualBack hx (y := (⟨"com/example/ordr/ordr/io/DotSyntaxException", "hasPlace", "()Z"⟩ : MethodName)) (z := (⟨"com/example/ordr/ordr/io/DotSyntaxException", "hasPlace", "()Z"⟩ : MethodName)) hown (mvT hZ (hw _ (List.mem_of_getElem? (i := 79) rfl))) (mvT hZ (hw _ (List.mem_of_getElem? (i := 80) rfl))) (notFace_of_selects (args := #[]) (mvT hZ (hw _ (List.mem_of_getElem? (i := 82) rfl)))) (mvT hZ (hw _ (List.mem_of_getElem? (i := 82) rfl))) (mvT hZ (hw _ (List.mem_of_getElem? (i := 81) rfl))) (by decide) (backOf (W := 0) (rm9 l Z a0 hw [] b2 v1 T44.heap n0 (by omega)  F62) hZ (hw _ (List.mem_of_getElem? (i := 83) rfl)) (hw _ (List.mem_of_getElem? (i := 3) rfl)) (by decide) (by decide)) q63a q63c (g := (mkF m 40 #[.val (.int ln), .val (.int co), .val (.int v1), .val (.ref b2), .val (.ref b24), .val (.int (1 : Int32))] [(.ref b2)])) rfl (by rw [hml]; rfl) (Steps.refl _) (argsL := []) (rest := []) (lenOf pd_2 rfl) rfl (by show 2 * 0 + _ ≤ _; exact Nat.le_of_eq rfl) (hb hby at_40) (fun _ _ => ⟨rfl, rfl, (by decide : 8 + 0 ≤ _), (by decide : 5536 + 0 ≤ _)⟩)
    dsimp only [Pt.U, Pt.locs, Pt.cells, Pt.slots] at X63 l63 y63 z63 st63 hQ63
    subst l63 y63 z63
    obtain ⟨r65, rfl, Nq63, hs63, P63_0⟩ := hQ63
    have N63 := Fr.app N44 Nq63
    refine Comes.go st63 ?_
    show Comes p e below _ (T63.setTop (mkF m 43 #[.val (.int ln), .val (.int co), .val (.int v1), .val (.ref b2), .val (.ref b24), .val (.int (1 : Int32))] [(.int r65)]))
    refine Comes.st (fun t k => XS.iload X63.here hx rfl (hb hby at_43) rfl k) ?_
    show Comes p e below _ (T63.setTop (mkF m 45 #[.val (.int ln), .val (.int co), .val (.int v1), .val (.ref b2), .val (.ref b24), .val (.int (1 : Int32))] [(.int (1 : Int32)), (.int r65)]))
    have hc45_66 : r65 = (1 : Int32) := by have a_0 := c_mask ln (2147483647 : Int32) 31 (by decide) (by decide); rw [hv_v1] at a_0; have a_1 := rng32 ln; have a_2 := rng32 v1; have c_0 := hc29_46; have c_1 := P63_0; (try simp only [Int32.lt_iff_toInt_lt, Int64.lt_iff_toInt_lt, ← Int32.toInt_inj, ← Int64.toInt_inj, Int32.reduceToInt, Int64.reduceToInt, eq_self, and_true, true_and, or_true, true_or, and_false, false_and, or_false, false_or, not_true_eq_false, not_false_eq_true] at a_0 a_1 a_2 c_0 c_1 ⊢) <;> omega
    refine Comes.st (fun t k => XS.icmpNo X63.here hx rfl (hb hby at_45) rfl (teq hc45_66).2 (XS.aload X63.here hx rfl (hb hby at_48) rfl rfl k)) ?_
    show Comes p e below _ (T63.setTop (mkF m 50 #[.val (.int ln), .val (.int co), .val (.int v1), .val (.ref b2), .val (.ref b24), .val (.int (1 : Int32))] [(.ref b24)]))
    obtain ⟨cq67, kq67, q67a, q67b, q67c⟩ := isOf hZ hs63 P44_0
    obtain ⟨_, _, ⟨T67, L67, k67, n67⟩, -, X67, ⟨Lc67, hQ67, l67, y67, z67⟩, st67⟩ := X63.virtualBack hx (y := (⟨"com/example/ordr/ordr/io/DotSyntaxException", "hasPlace", "()Z"⟩ : MethodName)) (z := (⟨"com/example/ordr/ordr/io/DotSyntaxException", "hasPlace", "()Z"⟩ : MethodName)) hown (mvT hZ (hw _ (List.mem_of_getElem? (i := 79) rfl))) (mvT hZ (hw _ (List.mem_of_getElem? (i := 80) rfl))) (notFace_of_selects (args := #[]) (mvT hZ (hw _ (List.mem_of_getElem? (i := 82) rfl)))) (mvT hZ (hw _ (List.mem_of_getElem? (i := 82) rfl))) (mvT hZ (hw _ (List.mem_of_getElem? (i := 81) rfl))) (by decide) (backOf (W := 0) (rm9 l Z a0 hw [] b24 ((0 : Int32)) T44.heap n0 (by omega)  P44_1) hZ (hw _ (List.mem_of_getElem? (i := 83) rfl)) (hw _ (List.mem_of_getElem? (i := 3) rfl)) (by decide) (by decide)) q67a q67c (g := (mkF m 50 #[.val (.int ln), .val (.int co), .val (.int v1), .val (.ref b2), .val (.ref b24), .val (.int (1 : Int32))] [(.ref b24)])) rfl (by rw [hml]; rfl) (Steps.refl _) (argsL := []) (rest := []) (lenOf pd_2 rfl) rfl (by show 2 * 0 + _ ≤ _; exact Nat.le_of_eq rfl) (hb hby at_50) (fun _ _ => ⟨rfl, hs63, (by decide : 8 + 0 ≤ _), (by decide : 5536 + 0 ≤ _)⟩)
    dsimp only [Pt.U, Pt.locs, Pt.cells, Pt.slots] at X67 l67 y67 z67 st67 hQ67
    subst l67 y67 z67
    obtain ⟨r68, rfl, Nq67, hs67, P67_0⟩ := hQ67
    have N67 := Fr.app N63 Nq67
    refine Comes.go st67 ?_
    show Comes p e below _ (T67.setTop (mkF m 53 #[.val (.int ln), .val (.int co), .val (.int v1), .val (.ref b2), .val (.ref b24), .val (.int (1 : Int32))] [(.int r68)]))
    have hc53_69 : r68 = (0 : Int32) := by have a_0 := c_mask ln (2147483647 : Int32) 31 (by decide) (by decide); rw [hv_v1] at a_0; have a_1 := rng32 ln; have a_2 := rng32 v1; have c_0 := hc29_46; have c_1 := hc45_66; have c_2 := P63_0; have c_3 := P67_0; (try simp only [Int32.lt_iff_toInt_lt, Int64.lt_iff_toInt_lt, ← Int32.toInt_inj, ← Int64.toInt_inj, Int32.reduceToInt, Int64.reduceToInt, eq_self, and_true, true_and, or_true, true_or, and_false, false_and, or_false, false_or, not_true_eq_false, not_false_eq_true] at a_0 a_1 a_2 c_0 c_1 c_2 c_3 ⊢) <;> omega
    refine Comes.st (fun t k => XS.ifNo X67.here hx rfl (hb hby at_53) rfl ((if0 _ _).trans (teq hc53_69).2) (XS.aloadN X67.here hx rfl (hb hby at_56) rfl rfl k)) ?_
    show Comes p e below _ (T67.setTop (mkF m 57 #[.val (.int ln), .val (.int co), .val (.int v1), .val (.ref b2), .val (.ref b24), .val (.int (1 : Int32))] [(.ref b2)]))
    obtain ⟨cq70, kq70, q70a, q70b, q70c⟩ := isOf hZ hs67 F64
    obtain ⟨_, _, ⟨T70, L70, k70, n70⟩, -, X70, ⟨Lc70, hQ70, l70, y70, z70⟩, st70⟩ := X67.virtualBack hx (y := (⟨"com/example/ordr/ordr/io/DotSyntaxException", "line", "()I"⟩ : MethodName)) (z := (⟨"com/example/ordr/ordr/io/DotSyntaxException", "line", "()I"⟩ : MethodName)) hown (mvT hZ (hw _ (List.mem_of_getElem? (i := 84) rfl))) (mvT hZ (hw _ (List.mem_of_getElem? (i := 85) rfl))) (notFace_of_selects (args := #[]) (mvT hZ (hw _ (List.mem_of_getElem? (i := 87) rfl)))) (mvT hZ (hw _ (List.mem_of_getElem? (i := 87) rfl))) (mvT hZ (hw _ (List.mem_of_getElem? (i := 86) rfl))) (by decide) (backOf (W := 0) (rm10 l Z a0 hw [] b2 v1 T44.heap n0 (by omega)  F62) hZ (hw _ (List.mem_of_getElem? (i := 88) rfl)) (hw _ (List.mem_of_getElem? (i := 3) rfl)) (by decide) (by decide)) q70a q70c (g := (mkF m 57 #[.val (.int ln), .val (.int co), .val (.int v1), .val (.ref b2), .val (.ref b24), .val (.int (1 : Int32))] [(.ref b2)])) rfl (by rw [hml]; rfl) (Steps.refl _) (argsL := []) (rest := []) (lenOf pd_3 rfl) rfl (by show 2 * 0 + _ ≤ _; exact Nat.le_of_eq rfl) (hb hby at_57) (fun _ _ => ⟨rfl, hs67, (by decide : 8 + 0 ≤ _), (by decide : 5536 + 0 ≤ _)⟩)
    dsimp only [Pt.U, Pt.locs, Pt.cells, Pt.slots] at X70 l70 y70 z70 st70 hQ70
    subst l70 y70 z70
    obtain ⟨rfl, Nq70, hs70⟩ := hQ70
    have N70 := Fr.app N67 Nq70
    refine Comes.go st70 ?_
    show Comes p e below _ (T70.setTop (mkF m 60 #[.val (.int ln), .val (.int co), .val (.int v1), .val (.ref b2), .val (.ref b24), .val (.int (1 : Int32))] [(.int v1)]))
    refine Comes.st (fun t k => XS.iloadN X70.here hx rfl (hb hby at_60) rfl k) ?_
    show Comes p e below _ (T70.setTop (mkF m 61 #[.val (.int ln), .val (.int co), .val (.int v1), .val (.ref b2), .val (.ref b24), .val (.int (1 : Int32))] [(.int v1), (.int v1)]))
    have hc61_71 : v1 = v1 := by rfl
    refine Comes.st (fun t k => XS.icmpNo X70.here hx rfl (hb hby at_61) rfl (teq hc61_71).2 (XS.aloadN X70.here hx rfl (hb hby at_64) rfl rfl k)) ?_
    show Comes p e below _ (T70.setTop (mkF m 65 #[.val (.int ln), .val (.int co), .val (.int v1), .val (.ref b2), .val (.ref b24), .val (.int (1 : Int32))] [(.ref b2)]))
    have F72 : Fld Z T44.heap b2 "com/example/ordr/ordr/io/DotSyntaxException" "column" "I" (.int co) := (((P22_2.ext E24).ext E33).keep Kq44 (ninS ne61 nin0))
    obtain ⟨cq73, kq73, q73a, q73b, q73c⟩ := isOf hZ hs70 F64
    obtain ⟨_, _, ⟨T73, L73, k73, n73⟩, -, X73, ⟨Lc73, hQ73, l73, y73, z73⟩, st73⟩ := X70.virtualBack hx (y := (⟨"com/example/ordr/ordr/io/DotSyntaxException", "column", "()I"⟩ : MethodName)) (z := (⟨"com/example/ordr/ordr/io/DotSyntaxException", "column", "()I"⟩ : MethodName)) hown (mvT hZ (hw _ (List.mem_of_getElem? (i := 89) rfl))) (mvT hZ (hw _ (List.mem_of_getElem? (i := 90) rfl))) (notFace_of_selects (args := #[]) (mvT hZ (hw _ (List.mem_of_getElem? (i := 92) rfl)))) (mvT hZ (hw _ (List.mem_of_getElem? (i := 92) rfl))) (mvT hZ (hw _ (List.mem_of_getElem? (i := 91) rfl))) (by decide) (backOf (W := 0) (rm11 l Z a0 hw [] b2 co T44.heap n0 (by omega)  F72) hZ (hw _ (List.mem_of_getElem? (i := 93) rfl)) (hw _ (List.mem_of_getElem? (i := 3) rfl)) (by decide) (by decide)) q73a q73c (g := (mkF m 65 #[.val (.int ln), .val (.int co), .val (.int v1), .val (.ref b2), .val (.ref b24), .val (.int (1 : Int32))] [(.ref b2)])) rfl (by rw [hml]; rfl) (Steps.refl _) (argsL := []) (rest := []) (lenOf pd_3 rfl) rfl (by show 2 * 0 + _ ≤ _; exact Nat.le_of_eq rfl) (hb hby at_65) (fun _ _ => ⟨rfl, hs70, (by decide : 8 + 0 ≤ _), (by decide : 5536 + 0 ≤ _)⟩)
    dsimp only [Pt.U, Pt.locs, Pt.cells, Pt.slots] at X73 l73 y73 z73 st73 hQ73
    subst l73 y73 z73
    obtain ⟨rfl, Nq73, hs73⟩ := hQ73
    have N73 := Fr.app N70 Nq73
    refine Comes.go st73 ?_
    show Comes p e below _ (T73.setTop (mkF m 68 #[.val (.int ln), .val (.int co), .val (.int v1), .val (.ref b2), .val (.ref b24), .val (.int (1 : Int32))] [(.int co)]))
    refine Comes.st (fun t k => XS.iloadN X73.here hx rfl (hb hby at_68) rfl k) ?_
    show Comes p e below _ (T73.setTop (mkF m 69 #[.val (.int ln), .val (.int co), .val (.int v1), .val (.ref b2), .val (.ref b24), .val (.int (1 : Int32))] [(.int co), (.int co)]))
    have hc69_74 : co = co := by rfl
    refine Comes.st (fun t k => XS.icmpNo X73.here hx rfl (hb hby at_69) rfl (teq hc69_74).2 (XS.iconst X73.here hx rfl (hb hby at_72) (XS.goto X73.here hx rfl (pc0 := 73) (pc' := 77) rfl (hb hby at_73) (by decide) (by decide) k))) ?_
    show Comes p e below _ (T73.setTop (mkF m 77 #[.val (.int ln), .val (.int co), .val (.int v1), .val (.ref b2), .val (.ref b24), .val (.int (1 : Int32))] [(.int (1 : Int32))]))
    have hkf : k33 ≤ T44.heap.size := by omega
    exact Comes.wretN X73 hx (t := .boolean) Bd.returns (by simp) hlk (hb hby at_77) hS33 hkf hs73 ⟨rfl, N73⟩ (by decide) (by decide)
set_option maxRecDepth 65536 in
set_option maxHeartbeats 40000000 in
theorem comes_1 {Post : Tables → Env → Array Value → State → Outcome → State → Prop} (hpost : ∀ tb e args s v u, (limb_1_1.after args s (.returned v) u = true ∧ limb_1_2.after args s (.returned v) u = true ∧ True) → ReturnedEndW s (.returned v) u (Jvm.fieldLocs frame_1_writes args s ++ Jvm.arrayLocs frame_1_arrays args s ++ Jvm.staticLocs frame_1_statics s) 24 12160 → Post tb e args s (.returned v) u) :
    ArmFor flags0 classFile x code maxLocals ret World_1 tables_1 room_1 Calls_1 rest_1 Pre_1 Post := by
  intro l hfl _ _ p e ha hc hk s m args below hf hA hF happ hP
  obtain ⟨hcalls, hrest, hpre⟩ := hP
  obtain ⟨-, -, -, hnamed, -, -, -, hat⟩ := (Spec.applies_iff hf).mp happ
  obtain ⟨hg, hn⟩ := and_e (Cond.before_iff.mp (show (Jvm.Cond.and given_1 narrow_1).before args s = true from hpre))
  obtain ⟨c0, d0⟩ := and_e hg
  obtain ⟨c1, d1⟩ := and_e d0
  obtain ⟨w0, w1, rfl⟩ : ∃ w0 w1 : Value, args = #[w0, w1] := by
    have hs : args.size = 2 := by simpa [Cond.value, given_1] using c0
    obtain ⟨L⟩ := args
    match L, hs with
    | [w0, w1], _ => exact ⟨w0, w1, rfl⟩
  have hw := fun d (hd : d ∈ tables_1) => atoms_spec (ws := Jvm.Cond.code x code maxLocals ret :: tables_1) hat d (List.mem_cons_of_mem _ hd)
  have hfit : Fit s := fun {y c} hc i hi => by
    obtain ⟨ha, rfl⟩ := Array.getElem?_eq_some_iff.mp hc
    have q := List.all_eq_true.mp ((Array.all_eq_true_iff_forall_mem.mp hF) _ (Array.getElem_mem ha)) i (List.mem_range.mpr hi)
    simpa [Array.getElem?_eq_getElem hi] using q
  obtain ⟨i0, ei0⟩ := is_v c1
  obtain rfl : w0 = (.int i0) := Option.some.inj ei0
  obtain ⟨i1, ei1⟩ := is_v d1
  obtain rfl : w1 = (.int i1) := Option.some.inj ei1
  obtain ⟨hsets, hown0⟩ := atoms_of _ (rest_1_c_eq ▸ (show rest_1_c.before _ s = true from hrest))
  obtain ⟨u1, ed1, hu1⟩ := isR_v (Cond.before_iff.mp (hsets _ (List.mem_of_getElem? (i := 7) rfl)))
  obtain ⟨u2, ed2, hu2⟩ := isR_v (Cond.before_iff.mp (hsets _ (List.mem_of_getElem? (i := 12) rfl)))
  obtain ⟨n, o, h1, h2, h3, _, L, rfl, ⟨rfl, N⟩, hq⟩ := rm0 l s _ hw tables_1 i0 i1 u1 u2 s.heap s.heap.size (Nat.le_refl _) (Sta.start ed1 (Or.inl (hsets _ (List.mem_of_getElem? (i := 6) rfl)))) (Sta.start ed2 (Or.inl (hsets _ (List.mem_of_getElem? (i := 11) rfl)))) hu1 hu2 (Old.start s) (show (!l.flags.contains noTraceFlag) = true by rw [hfl]; decide) p e ha hc hk s m _ below hf ((Spec.applies_iff_loose hf).mp happ).1 ⟨rfl, State.Warmed39.refl s, rfl⟩ ⟨MethodsKnown_of_tablesKnown hcalls.2.1, FramesKnown_of_framesKnown hcalls.1 hf⟩
  refine ⟨n, _, h1, h2, h3, hpost _ _ _ _ _ _ ⟨Cond.after_iff.mpr rfl, Cond.after_iff.mpr (eq_i res_at (Term.int_eval (1)) rfl), trivial⟩ ⟨hq.1, hq.2.1, hq.2.2.1, (hq.2.2.2.sift fun y hy => Or.inr (N y hy)).mono (by decide) (by decide)⟩⟩
theorem main_1_1 : Claimed_1_1 := comes_1 fun _ _ _ _ _ _ h hF => ⟨h.1, hF⟩
theorem main_1_2 : Claimed_1_2 := comes_1 fun _ _ _ _ _ _ h hF => ⟨h.2.1, hF⟩
end Jvm.Pilot.@@N@@
namespace Jvm.Pilot.@@N@@
open Jvm Jvm.ClassFile Sem Op Lib Jvm.Free Jvm.Stand Jvm.Pilot.@@N@@.Jvm.D
/-! MADE BY PROGRAM (witnessworld.py) out of the Statement's table words and the real class files: 30 classes; the members and pool entries that the words name. The judged class is class 1, her method 1. -/
namespace start1
open Jvm.ClassFile
def u (s : String) : CpInfo := .utf8 (stringToUtf16 s)
/-- a pool by its gaps: so many unusable entries, then the entry; so many at the end -/
def gap : Nat → List CpInfo → List CpInfo
  | 0, r => r
  | n + 1, r => .unusable :: gap n r
def poolList (es : List (Nat × CpInfo)) (last : Nat) : List CpInfo := es.foldr (fun e r => gap e.1 (e.2 :: r)) (gap last [])
def pool (es : List (Nat × CpInfo)) (last : Nat) : Array CpInfo := ⟨poolList es last⟩
def fileOf (pool : Array CpInfo) (this : Nat) (attrs : Array Attribute := #[]) (ms : Array MethodInfo := #[]) (fl : Nat := 33) (sup : Nat := 0) (ifs : Array Nat := #[]) (fds : Array FieldInfo := #[]) : ClassFile where
  minorVersion := 0
  majorVersion := 65
  constantPool := pool
  accessFlags := fl
  thisClass := this
  superClass := sup
  interfaces := ifs
  fields := fds
  methods := ms
  attributes := attrs
def plain (name : String) (sup : Option ClassId) : Class where
  name := name
  kind := .ordinary
  loader := none
  accessFlags := 33
  super := sup
  interfaces := #[]
  cf := none
  fields := #[]
  methods := #[]
  instanceTypes := #[]
  staticTypes := #[]
  resolved := #[]
  callSites := []
  init := .initialized
  statics := none
  mirror := none

def pool0 : Array CpInfo := pool [(5, u "<init>"), (0, u "()V"), (1, .class_ 10), (1, u "java/lang/Object")] 113

def k0c0 : Code := { maxStack := 0, maxLocals := 1, code := object_method_1_code, exceptionTable := #[], attributes := #[] }
def k0m0 : Method := { name := "<init>", desc := "()V", sig := { parameters := [], returnType := none }, accessFlags := 1, code := some k0c0 }
/-- java/lang/Object -/
def k0 : Class := { plain "java/lang/Object" none with
  accessFlags := 33
  interfaces := #[]
  cf := some (fileOf pool0 8 #[] #[{ accessFlags := 1, nameIndex := 5, descriptorIndex := 6, attributes := #[] }] 33 0 #[] #[])
  fields := #[]
  methods := #[k0m0]
  instanceTypes := #[]
  staticTypes := #[]
  resolved := Array.replicate 124 none
  statics := none }

def pool1 : Array CpInfo := pool [(2, .class_ 4), (1, u "java/lang/Object"), (0, u "<init>"), (0, u "()V"), (0, .integer 2147483647), (0, .class_ 9), (0, u "com/example/ordr/ordr/io/DotSyntaxException"), (0, .string 11), (0, u "m"), (0, .methodref 8 13), (0, .nameAndType 5 14), (0, u "(IILjava/lang/String;)V"), (0, .methodref 8 16), (0, .nameAndType 5 17), (0, u "(Ljava/lang/String;)V"), (0, .methodref 8 19), (0, .nameAndType 20 21), (0, u "hasPlace"), (0, u "()Z"), (0, .methodref 8 23), (0, .nameAndType 24 25), (0, u "line"), (0, u "()I"), (0, .methodref 8 27), (0, .nameAndType 28 25), (0, u "column"), (0, .class_ 30), (0, u "com/example/ordr/ordr/io/DotSyntaxExceptionHasPlacePinLaw"), (2, u "law"), (0, u "(II)Z")] 3

def k1m0 : Method := { name := "<init>", desc := "()V", sig := { parameters := [], returnType := none }, accessFlags := 2, code := none }
def k1c1 : Code := { maxStack := 5, maxLocals := 6, code := code, exceptionTable := #[], attributes := #[] }
def k1m1 : Method := { name := "law", desc := "(II)Z", sig := { parameters := [.int, .int], returnType := some .boolean }, accessFlags := 9, code := some k1c1 }
/-- com/example/ordr/ordr/io/DotSyntaxExceptionHasPlacePinLaw -/
def k1 : Class := { plain "com/example/ordr/ordr/io/DotSyntaxExceptionHasPlacePinLaw" (some 0) with
  accessFlags := 49
  interfaces := #[]
  cf := some (fileOf pool1 29 #[] #[{ accessFlags := 2, nameIndex := 5, descriptorIndex := 6, attributes := #[] }, { accessFlags := 9, nameIndex := 33, descriptorIndex := 34, attributes := #[] }] 49 2 #[] #[])
  fields := #[]
  methods := #[k1m0, k1m1]
  instanceTypes := #[]
  staticTypes := #[]
  resolved := Array.replicate 38 none
  statics := none }

def pool2 : Array CpInfo := pool [(1, .class_ 2), (0, u "java/io/Serializable"), (0, .class_ 4), (0, u "java/lang/Object")] 2

/-- java/io/Serializable -/
def k2 : Class := { plain "java/io/Serializable" (some 0) with
  accessFlags := 1537
  interfaces := #[]
  cf := some (fileOf pool2 1 #[] #[] 1537 3 #[] #[])
  fields := #[]
  methods := #[]
  instanceTypes := #[]
  staticTypes := #[]
  resolved := Array.replicate 7 none
  statics := none }

def pool3 : Array CpInfo := pool [(1, .methodref 2 3), (0, .class_ 4), (0, .nameAndType 5 6), (0, u "java/lang/Object"), (0, u "<init>"), (0, u "()V"), (0, .fieldref 8 9), (0, .class_ 10), (0, .nameAndType 11 12), (0, u "java/lang/Throwable"), (0, u "cause"), (0, u "Ljava/lang/Throwable;"), (0, .fieldref 8 14), (0, .nameAndType 15 16), (0, u "UNASSIGNED_STACK"), (0, u "[Ljava/lang/StackTraceElement;"), (0, .fieldref 8 18), (0, .nameAndType 19 16), (0, u "stackTrace"), (0, .fieldref 8 21), (0, .nameAndType 22 23), (0, u "SUPPRESSED_SENTINEL"), (0, u "Ljava/util/List;"), (0, .fieldref 8 25), (0, .nameAndType 26 23), (0, u "suppressedExceptions"), (0, .methodref 8 28), (0, .nameAndType 29 30), (0, u "fillInStackTrace"), (0, u "()Ljava/lang/Throwable;"), (0, .fieldref 8 32), (0, .nameAndType 33 34), (0, u "detailMessage"), (0, u "Ljava/lang/String;"), (58, .class_ 94), (0, u "java/lang/Throwable$WrappedPrintStream"), (6, .class_ 103), (1, u "java/lang/Throwable$PrintStreamOrWriter"), (61, u "$assertionsDisabled"), (0, u "Z"), (26, .class_ 194), (0, u "java/lang/Throwable$WrappedPrintWriter"), (3, .fieldref 8 199), (0, .nameAndType 200 201), (0, u "backtrace"), (0, u "Ljava/lang/Object;"), (0, .methodref 8 203), (0, .nameAndType 29 204), (0, u "(I)Ljava/lang/Throwable;"), (6, u "depth"), (0, u "I"), (10, u "(Ljava/lang/String;)V"), (45, .class_ 271), (1, u "java/lang/Throwable$SentinelHolder"), (32, u "EMPTY_THROWABLE_ARRAY"), (0, u "[Ljava/lang/Throwable;"), (12, .class_ 319), (0, u "java/io/Serializable"), (0, u "serialVersionUID"), (0, u "J"), (5, u "NULL_CAUSE_MESSAGE"), (0, u "SELF_SUPPRESSION_MESSAGE"), (0, u "CAUSE_CAPTION"), (0, u "SUPPRESSED_CAPTION")] 73

def k3c0 : Code := { maxStack := 2, maxLocals := 1, code := jdk_78_method_1_code, exceptionTable := #[], attributes := #[] }
def k3m0 : Method := { name := "<init>", desc := "()V", sig := { parameters := [], returnType := none }, accessFlags := 1, code := some k3c0 }
def k3c1 : Code := { maxStack := 2, maxLocals := 2, code := jdk_78_method_2_code, exceptionTable := #[], attributes := #[] }
def k3m1 : Method := { name := "<init>", desc := "(Ljava/lang/String;)V", sig := { parameters := [(.object "java/lang/String")], returnType := none }, accessFlags := 1, code := some k3c1 }
def k3c2 : Code := { maxStack := 2, maxLocals := 1, code := ⟨#[0x2a, 0xb4, 0x00, 0x11, 0xc7, 0x00, 0x0a, 0x2a, 0xb4, 0x00, 0xc6, 0xc6, 0x00, 0x10, 0x2a, 0x03, 0xb6, 0x00, 0xca, 0x57, 0x2a, 0xb2, 0x00, 0x0d, 0xb5, 0x00, 0x11, 0x2a, 0xb0]⟩, exceptionTable := #[], attributes := #[] }
def k3m2 : Method := { name := "fillInStackTrace", desc := "()Ljava/lang/Throwable;", sig := { parameters := [], returnType := some (.object "java/lang/Throwable") }, accessFlags := 33, code := some k3c2 }
def k3m3 : Method := { name := "fillInStackTrace", desc := "(I)Ljava/lang/Throwable;", sig := { parameters := [.int], returnType := some (.object "java/lang/Throwable") }, accessFlags := 258, code := none }
/-- java/lang/Throwable -/
def k3 : Class := { plain "java/lang/Throwable" (some 0) with
  accessFlags := 33
  interfaces := #[2]
  cf := some (fileOf pool3 8 #[.nestMembers #[193, 93, 101, 269]] #[{ accessFlags := 1, nameIndex := 5, descriptorIndex := 6, attributes := #[] }, { accessFlags := 1, nameIndex := 5, descriptorIndex := 223, attributes := #[] }, { accessFlags := 33, nameIndex := 29, descriptorIndex := 30, attributes := #[] }, { accessFlags := 258, nameIndex := 29, descriptorIndex := 204, attributes := #[] }] 33 2 #[318] #[{ accessFlags := 26, nameIndex := 320, descriptorIndex := 321, attributes := #[] }, { accessFlags := 130, nameIndex := 200, descriptorIndex := 201, attributes := #[] }, { accessFlags := 2, nameIndex := 33, descriptorIndex := 34, attributes := #[] }, { accessFlags := 26, nameIndex := 15, descriptorIndex := 16, attributes := #[] }, { accessFlags := 2, nameIndex := 11, descriptorIndex := 12, attributes := #[] }, { accessFlags := 2, nameIndex := 19, descriptorIndex := 16, attributes := #[] }, { accessFlags := 130, nameIndex := 211, descriptorIndex := 212, attributes := #[] }, { accessFlags := 26, nameIndex := 22, descriptorIndex := 23, attributes := #[] }, { accessFlags := 2, nameIndex := 26, descriptorIndex := 23, attributes := #[] }, { accessFlags := 26, nameIndex := 327, descriptorIndex := 34, attributes := #[] }, { accessFlags := 26, nameIndex := 328, descriptorIndex := 34, attributes := #[] }, { accessFlags := 26, nameIndex := 329, descriptorIndex := 34, attributes := #[] }, { accessFlags := 26, nameIndex := 330, descriptorIndex := 34, attributes := #[] }, { accessFlags := 26, nameIndex := 304, descriptorIndex := 305, attributes := #[] }, { accessFlags := 4120, nameIndex := 165, descriptorIndex := 166, attributes := #[] }])
  fields := #[{ name := "serialVersionUID", type := .long, accessFlags := 26, slot := 0, constantValue := 0 }, { name := "backtrace", type := (.object "java/lang/Object"), accessFlags := 130, slot := 0, constantValue := 0 }, { name := "detailMessage", type := (.object "java/lang/String"), accessFlags := 2, slot := 1, constantValue := 0 }, { name := "UNASSIGNED_STACK", type := (.array (.object "java/lang/StackTraceElement")), accessFlags := 26, slot := 1, constantValue := 0 }, { name := "cause", type := (.object "java/lang/Throwable"), accessFlags := 2, slot := 2, constantValue := 0 }, { name := "stackTrace", type := (.array (.object "java/lang/StackTraceElement")), accessFlags := 2, slot := 3, constantValue := 0 }, { name := "depth", type := .int, accessFlags := 130, slot := 4, constantValue := 0 }, { name := "SUPPRESSED_SENTINEL", type := (.object "java/util/List"), accessFlags := 26, slot := 2, constantValue := 0 }, { name := "suppressedExceptions", type := (.object "java/util/List"), accessFlags := 2, slot := 5, constantValue := 0 }, { name := "NULL_CAUSE_MESSAGE", type := (.object "java/lang/String"), accessFlags := 26, slot := 3, constantValue := 0 }, { name := "SELF_SUPPRESSION_MESSAGE", type := (.object "java/lang/String"), accessFlags := 26, slot := 4, constantValue := 0 }, { name := "CAUSE_CAPTION", type := (.object "java/lang/String"), accessFlags := 26, slot := 5, constantValue := 0 }, { name := "SUPPRESSED_CAPTION", type := (.object "java/lang/String"), accessFlags := 26, slot := 6, constantValue := 0 }, { name := "EMPTY_THROWABLE_ARRAY", type := (.array (.object "java/lang/Throwable")), accessFlags := 26, slot := 7, constantValue := 0 }, { name := "$assertionsDisabled", type := .boolean, accessFlags := 4120, slot := 8, constantValue := 0 }]
  methods := #[k3m0, k3m1, k3m2, k3m3]
  instanceTypes := #[(.object "java/lang/Object"), (.object "java/lang/String"), (.object "java/lang/Throwable"), (.array (.object "java/lang/StackTraceElement")), .int, (.object "java/util/List")]
  staticTypes := #[.long, (.array (.object "java/lang/StackTraceElement")), (.object "java/util/List"), (.object "java/lang/String"), (.object "java/lang/String"), (.object "java/lang/String"), (.object "java/lang/String"), (.array (.object "java/lang/Throwable")), .boolean]
  resolved := Array.replicate 404 none
  statics := some 0 }

def pool4 : Array CpInfo := pool [(2, .class_ 4), (1, u "java/lang/Throwable"), (0, u "<init>"), (0, u "()V"), (0, .methodref 2 8), (0, .nameAndType 5 9), (0, u "(Ljava/lang/String;)V"), (9, .class_ 20), (0, u "java/lang/Exception"), (0, u "serialVersionUID"), (0, u "J")] 17

def k4m0 : Method := { name := "<init>", desc := "()V", sig := { parameters := [], returnType := none }, accessFlags := 1, code := none }
def k4c1 : Code := { maxStack := 2, maxLocals := 2, code := jdk_59_method_2_code, exceptionTable := #[], attributes := #[] }
def k4m1 : Method := { name := "<init>", desc := "(Ljava/lang/String;)V", sig := { parameters := [(.object "java/lang/String")], returnType := none }, accessFlags := 1, code := some k4c1 }
/-- java/lang/Exception -/
def k4 : Class := { plain "java/lang/Exception" (some 3) with
  accessFlags := 33
  interfaces := #[]
  cf := some (fileOf pool4 19 #[] #[{ accessFlags := 1, nameIndex := 5, descriptorIndex := 6, attributes := #[] }, { accessFlags := 1, nameIndex := 5, descriptorIndex := 9, attributes := #[] }] 33 2 #[] #[{ accessFlags := 24, nameIndex := 21, descriptorIndex := 22, attributes := #[] }])
  fields := #[{ name := "serialVersionUID", type := .long, accessFlags := 24, slot := 0, constantValue := 0 }]
  methods := #[k4m0, k4m1]
  instanceTypes := #[(.object "java/lang/Object"), (.object "java/lang/String"), (.object "java/lang/Throwable"), (.array (.object "java/lang/StackTraceElement")), .int, (.object "java/util/List")]
  staticTypes := #[.long]
  resolved := Array.replicate 40 none
  statics := none }

def pool5 : Array CpInfo := pool [(2, .class_ 4), (1, u "java/lang/Exception"), (0, u "<init>"), (0, u "()V"), (0, .methodref 2 8), (0, .nameAndType 5 9), (0, u "(Ljava/lang/String;)V"), (6, .class_ 17), (0, u "java/io/IOException"), (0, u "serialVersionUID"), (0, u "J")] 14

def k5m0 : Method := { name := "<init>", desc := "()V", sig := { parameters := [], returnType := none }, accessFlags := 1, code := none }
def k5c1 : Code := { maxStack := 2, maxLocals := 2, code := jdk_131_method_2_code, exceptionTable := #[], attributes := #[] }
def k5m1 : Method := { name := "<init>", desc := "(Ljava/lang/String;)V", sig := { parameters := [(.object "java/lang/String")], returnType := none }, accessFlags := 1, code := some k5c1 }
/-- java/io/IOException -/
def k5 : Class := { plain "java/io/IOException" (some 4) with
  accessFlags := 33
  interfaces := #[]
  cf := some (fileOf pool5 16 #[] #[{ accessFlags := 1, nameIndex := 5, descriptorIndex := 6, attributes := #[] }, { accessFlags := 1, nameIndex := 5, descriptorIndex := 9, attributes := #[] }] 33 2 #[] #[{ accessFlags := 24, nameIndex := 18, descriptorIndex := 19, attributes := #[] }])
  fields := #[{ name := "serialVersionUID", type := .long, accessFlags := 24, slot := 0, constantValue := 0 }]
  methods := #[k5m0, k5m1]
  instanceTypes := #[(.object "java/lang/Object"), (.object "java/lang/String"), (.object "java/lang/Throwable"), (.array (.object "java/lang/StackTraceElement")), .int, (.object "java/util/List")]
  staticTypes := #[.long]
  resolved := Array.replicate 34 none
  statics := none }

def pool6 : Array CpInfo := pool [(1, .methodref 2 3), (0, .class_ 4), (0, .nameAndType 5 6), (0, u "java/io/IOException"), (0, u "<init>"), (0, u "(Ljava/lang/String;)V"), (0, .fieldref 8 9), (0, .class_ 10), (0, .nameAndType 11 12), (0, u "com/example/ordr/ordr/io/DotSyntaxException"), (0, u "line"), (0, u "I"), (0, .fieldref 8 14), (0, .nameAndType 15 12), (0, u "column"), (0, .methodref 8 17), (0, .nameAndType 5 18), (0, u "(IILjava/lang/String;)V"), (0, u "serialVersionUID"), (0, u "J"), (5, u "hasPlace"), (0, u "()Z"), (1, u "()I")] 2

def k6c0 : Code := { maxStack := 2, maxLocals := 4, code := prog_12_method_1_code, exceptionTable := #[], attributes := #[] }
def k6m0 : Method := { name := "<init>", desc := "(IILjava/lang/String;)V", sig := { parameters := [.int, .int, (.object "java/lang/String")], returnType := none }, accessFlags := 1, code := some k6c0 }
def k6c1 : Code := { maxStack := 4, maxLocals := 2, code := prog_12_method_2_code, exceptionTable := #[], attributes := #[] }
def k6m1 : Method := { name := "<init>", desc := "(Ljava/lang/String;)V", sig := { parameters := [(.object "java/lang/String")], returnType := none }, accessFlags := 1, code := some k6c1 }
def k6c2 : Code := { maxStack := 1, maxLocals := 1, code := prog_12_method_3_code, exceptionTable := #[], attributes := #[] }
def k6m2 : Method := { name := "hasPlace", desc := "()Z", sig := { parameters := [], returnType := some .boolean }, accessFlags := 1, code := some k6c2 }
def k6c3 : Code := { maxStack := 1, maxLocals := 1, code := prog_12_method_4_code, exceptionTable := #[], attributes := #[] }
def k6m3 : Method := { name := "line", desc := "()I", sig := { parameters := [], returnType := some .int }, accessFlags := 1, code := some k6c3 }
def k6c4 : Code := { maxStack := 1, maxLocals := 1, code := prog_12_method_5_code, exceptionTable := #[], attributes := #[] }
def k6m4 : Method := { name := "column", desc := "()I", sig := { parameters := [], returnType := some .int }, accessFlags := 1, code := some k6c4 }
/-- com/example/ordr/ordr/io/DotSyntaxException -/
def k6 : Class := { plain "com/example/ordr/ordr/io/DotSyntaxException" (some 5) with
  accessFlags := 49
  interfaces := #[]
  cf := some (fileOf pool6 8 #[] #[{ accessFlags := 1, nameIndex := 5, descriptorIndex := 18, attributes := #[] }, { accessFlags := 1, nameIndex := 5, descriptorIndex := 6, attributes := #[] }, { accessFlags := 1, nameIndex := 26, descriptorIndex := 27, attributes := #[] }, { accessFlags := 1, nameIndex := 11, descriptorIndex := 29, attributes := #[] }, { accessFlags := 1, nameIndex := 15, descriptorIndex := 29, attributes := #[] }] 49 2 #[] #[{ accessFlags := 26, nameIndex := 19, descriptorIndex := 20, attributes := #[] }, { accessFlags := 18, nameIndex := 11, descriptorIndex := 12, attributes := #[] }, { accessFlags := 18, nameIndex := 15, descriptorIndex := 12, attributes := #[] }])
  fields := #[{ name := "serialVersionUID", type := .long, accessFlags := 26, slot := 0, constantValue := 0 }, { name := "line", type := .int, accessFlags := 18, slot := 6, constantValue := 0 }, { name := "column", type := .int, accessFlags := 18, slot := 7, constantValue := 0 }]
  methods := #[k6m0, k6m1, k6m2, k6m3, k6m4]
  instanceTypes := #[(.object "java/lang/Object"), (.object "java/lang/String"), (.object "java/lang/Throwable"), (.array (.object "java/lang/StackTraceElement")), .int, (.object "java/util/List"), .int, .int]
  staticTypes := #[.long]
  resolved := Array.replicate 32 none
  statics := none }

def pool7 : Array CpInfo := pool [(1, .class_ 2), (0, u "java/lang/Comparable"), (0, .class_ 4), (0, u "java/lang/Object")] 7

/-- java/lang/Comparable -/
def k7 : Class := { plain "java/lang/Comparable" (some 0) with
  accessFlags := 1537
  interfaces := #[]
  cf := some (fileOf pool7 1 #[] #[] 1537 3 #[] #[])
  fields := #[]
  methods := #[]
  instanceTypes := #[]
  staticTypes := #[]
  resolved := Array.replicate 12 none
  statics := none }

def pool8 : Array CpInfo := pool [(2, .class_ 4), (1, u "java/lang/CharSequence"), (42, .class_ 48), (0, u "java/lang/CharSequence$1CodePointIterator"), (10, .class_ 60), (0, u "java/lang/CharSequence$1CharIterator"), (5, .class_ 67), (0, u "java/lang/Object")] 63

/-- java/lang/CharSequence -/
def k8 : Class := { plain "java/lang/CharSequence" (some 0) with
  accessFlags := 1537
  interfaces := #[]
  cf := some (fileOf pool8 2 #[.nestMembers #[47, 59]] #[] 1537 66 #[] #[])
  fields := #[]
  methods := #[]
  instanceTypes := #[]
  staticTypes := #[]
  resolved := Array.replicate 131 none
  statics := none }

def pool9 : Array CpInfo := pool [(1, .class_ 2), (0, u "java/lang/constant/Constable"), (0, .class_ 4), (0, u "java/lang/Object")] 6

/-- java/lang/constant/Constable -/
def k9 : Class := { plain "java/lang/constant/Constable" (some 0) with
  accessFlags := 1537
  interfaces := #[]
  cf := some (fileOf pool9 1 #[] #[] 1537 3 #[] #[])
  fields := #[]
  methods := #[]
  instanceTypes := #[]
  staticTypes := #[]
  resolved := Array.replicate 11 none
  statics := none }

def pool10 : Array CpInfo := pool [(1, .class_ 2), (0, u "java/lang/constant/ConstantDesc"), (0, .class_ 4), (0, u "java/lang/Object")] 32

/-- java/lang/constant/ConstantDesc -/
def k10 : Class := { plain "java/lang/constant/ConstantDesc" (some 0) with
  accessFlags := 1537
  interfaces := #[]
  cf := some (fileOf pool10 1 #[] #[] 1537 3 #[] #[])
  fields := #[]
  methods := #[]
  instanceTypes := #[]
  staticTypes := #[]
  resolved := Array.replicate 37 none
  statics := none }

def pool11 : Array CpInfo := pool [(2, .class_ 4), (1, u "java/lang/Object"), (0, u "<init>"), (0, u "()V"), (3, .class_ 12), (1, u "java/lang/String"), (0, u "value"), (0, u "[B"), (2, u "coder"), (0, u "B"), (2, u "hash"), (0, u "I"), (2, u "hashIsZero"), (0, u "Z"), (13, u "COMPACT_STRINGS"), (534, .class_ 576), (0, u "java/lang/CharSequence"), (22, u "CASE_INSENSITIVE_ORDER"), (0, u "Ljava/util/Comparator;"), (500, u "serialPersistentFields"), (0, u "[Ljava/io/ObjectStreamField;"), (0, .class_ 1104), (0, u "java/lang/String$CaseInsensitiveComparator"), (1, .class_ 1107), (0, u "java/io/Serializable"), (0, .class_ 1109), (0, u "java/lang/Comparable"), (0, .class_ 1111), (0, u "java/lang/constant/Constable"), (0, .class_ 1113), (0, u "java/lang/constant/ConstantDesc"), (2, u "serialVersionUID"), (0, u "J"), (3, u "REPL"), (0, u "C"), (2, u "LATIN1"), (1, u "UTF16")] 323

def k11m0 : Method := { name := "<init>", desc := "()V", sig := { parameters := [], returnType := none }, accessFlags := 1, code := none }
/-- java/lang/String -/
def k11 : Class := { plain "java/lang/String" (some 0) with
  accessFlags := 49
  interfaces := #[2, 7, 8, 9, 10]
  cf := some (fileOf pool11 10 #[.nestMembers #[1103]] #[{ accessFlags := 1, nameIndex := 5, descriptorIndex := 6, attributes := #[] }] 49 2 #[1106, 1108, 575, 1110, 1112] #[{ accessFlags := 18, nameIndex := 13, descriptorIndex := 14, attributes := #[] }, { accessFlags := 18, nameIndex := 17, descriptorIndex := 18, attributes := #[] }, { accessFlags := 2, nameIndex := 21, descriptorIndex := 22, attributes := #[] }, { accessFlags := 2, nameIndex := 25, descriptorIndex := 26, attributes := #[] }, { accessFlags := 26, nameIndex := 1116, descriptorIndex := 1117, attributes := #[] }, { accessFlags := 24, nameIndex := 40, descriptorIndex := 26, attributes := #[] }, { accessFlags := 26, nameIndex := 1101, descriptorIndex := 1102, attributes := #[] }, { accessFlags := 26, nameIndex := 1121, descriptorIndex := 1122, attributes := #[] }, { accessFlags := 25, nameIndex := 599, descriptorIndex := 600, attributes := #[] }, { accessFlags := 24, nameIndex := 1125, descriptorIndex := 18, attributes := #[] }, { accessFlags := 24, nameIndex := 1127, descriptorIndex := 18, attributes := #[] }])
  fields := #[{ name := "value", type := (.array .byte), accessFlags := 18, slot := 0, constantValue := 0 }, { name := "coder", type := .byte, accessFlags := 18, slot := 1, constantValue := 0 }, { name := "hash", type := .int, accessFlags := 2, slot := 2, constantValue := 0 }, { name := "hashIsZero", type := .boolean, accessFlags := 2, slot := 3, constantValue := 0 }, { name := "serialVersionUID", type := .long, accessFlags := 26, slot := 0, constantValue := 0 }, { name := "COMPACT_STRINGS", type := .boolean, accessFlags := 24, slot := 1, constantValue := 0 }, { name := "serialPersistentFields", type := (.array (.object "java/io/ObjectStreamField")), accessFlags := 26, slot := 2, constantValue := 0 }, { name := "REPL", type := .char, accessFlags := 26, slot := 3, constantValue := 0 }, { name := "CASE_INSENSITIVE_ORDER", type := (.object "java/util/Comparator"), accessFlags := 25, slot := 4, constantValue := 0 }, { name := "LATIN1", type := .byte, accessFlags := 24, slot := 5, constantValue := 0 }, { name := "UTF16", type := .byte, accessFlags := 24, slot := 6, constantValue := 0 }]
  methods := #[k11m0]
  instanceTypes := #[(.array .byte), .byte, .int, .boolean]
  staticTypes := #[.long, .boolean, (.array (.object "java/io/ObjectStreamField")), .char, (.object "java/util/Comparator"), .byte, .byte]
  resolved := Array.replicate 1451 none
  statics := none }

def pool12 : Array CpInfo := pool [(2, .class_ 4), (1, u "java/lang/Object"), (0, u "<init>"), (0, u "()V"), (12, .class_ 20), (0, u "java/util/Collections"), (63, u "r"), (0, u "Ljava/util/Random;"), (80, .class_ 167), (0, u "java/util/Collections$UnmodifiableCollection"), (6, .class_ 175), (0, u "java/util/Collections$UnmodifiableSequencedCollection"), (6, .class_ 183), (0, u "java/util/Collections$UnmodifiableSet"), (6, .class_ 191), (0, u "java/util/Collections$UnmodifiableSequencedSet"), (6, .class_ 199), (0, u "java/util/Collections$UnmodifiableSortedSet"), (6, .class_ 207), (0, u "java/util/Collections$UnmodifiableNavigableSet"), (4, .class_ 213), (0, u "java/util/Collections$UnmodifiableList"), (1, .class_ 216), (0, u "java/util/Collections$UnmodifiableRandomAccessList"), (6, .class_ 224), (0, u "java/util/Collections$UnmodifiableMap"), (6, .class_ 232), (0, u "java/util/Collections$UnmodifiableSequencedMap"), (4, .class_ 238), (0, u "java/util/Collections$UnmodifiableSortedMap"), (6, .class_ 246), (0, u "java/util/Collections$UnmodifiableNavigableMap"), (3, .class_ 251), (0, u "java/util/Collections$SynchronizedCollection"), (4, .class_ 257), (0, u "java/util/Collections$SynchronizedSet"), (4, .class_ 263), (0, u "java/util/Collections$SynchronizedSortedSet"), (1, .class_ 266), (0, u "java/util/Collections$SynchronizedNavigableSet"), (1, .class_ 269), (0, u "java/util/Collections$SynchronizedRandomAccessList"), (1, .class_ 272), (0, u "java/util/Collections$SynchronizedList"), (5, .class_ 279), (0, u "java/util/Collections$SynchronizedMap"), (1, .class_ 282), (0, u "java/util/Collections$SynchronizedSortedMap"), (1, .class_ 285), (0, u "java/util/Collections$SynchronizedNavigableMap"), (1, .class_ 288), (0, u "java/util/Collections$CheckedCollection"), (11, .class_ 301), (0, u "java/util/Collections$CheckedQueue"), (3, .class_ 306), (0, u "java/util/Collections$CheckedSet"), (3, .class_ 311), (0, u "java/util/Collections$CheckedSortedSet"), (3, .class_ 316), (0, u "java/util/Collections$CheckedNavigableSet"), (3, .class_ 321), (0, u "java/util/Collections$CheckedRandomAccessList"), (3, .class_ 326), (0, u "java/util/Collections$CheckedList"), (1, .class_ 329), (0, u "java/util/Collections$CheckedMap"), (3, .class_ 334), (0, u "java/util/Collections$CheckedSortedMap"), (3, .class_ 339), (0, u "java/util/Collections$CheckedNavigableMap"), (4, .class_ 346), (1, u "java/util/Collections$EmptyIterator"), (3, .class_ 352), (1, u "java/util/Collections$EmptyListIterator"), (2, .class_ 357), (1, u "java/util/Collections$EmptyEnumeration"), (4, u "EMPTY_SET"), (0, u "Ljava/util/Set;"), (6, u "EMPTY_LIST"), (0, u "Ljava/util/List;"), (2, u "EMPTY_MAP"), (0, u "Ljava/util/Map;"), (4, .class_ 381), (0, u "java/util/Collections$SingletonSet"), (2, .class_ 385), (0, u "java/util/Collections$1"), (1, .class_ 388), (0, u "java/util/Collections$2"), (1, .class_ 391), (0, u "java/util/Collections$SingletonList"), (1, .class_ 394), (0, u "java/util/Collections$SingletonMap"), (22, .class_ 418), (0, u "java/util/Collections$CopiesList"), (4, .class_ 425), (1, u "java/util/Collections$ReverseComparator"), (8, .class_ 435), (0, u "java/util/Collections$ReverseComparator2"), (6, .class_ 443), (0, u "java/util/Collections$3"), (25, .class_ 470), (0, u "java/util/Collections$SetFromMap"), (2, .class_ 474), (0, u "java/util/Collections$SequencedSetFromMap"), (3, .class_ 479), (0, u "java/util/Collections$AsLIFOQueue"), (11, .class_ 492), (0, u "java/util/Collections$EmptySet"), (1, .class_ 495), (0, u "java/util/Collections$EmptyList"), (1, .class_ 498), (0, u "java/util/Collections$EmptyMap"), (1, u "BINARYSEARCH_THRESHOLD"), (0, u "I"), (2, u "REVERSE_THRESHOLD"), (1, u "SHUFFLE_THRESHOLD"), (1, u "FILL_THRESHOLD"), (1, u "ROTATE_THRESHOLD"), (1, u "COPY_THRESHOLD"), (1, u "REPLACEALL_THRESHOLD"), (1, u "INDEXOFSUBLIST_THRESHOLD"), (333, .class_ 851), (0, u "java/util/Collections$CheckedMap$CheckedEntrySet"), (0, .class_ 853), (0, u "java/util/Collections$CheckedMap$CheckedEntrySet$CheckedEntry"), (0, .class_ 855), (0, u "java/util/Collections$CheckedMap$CheckedEntrySet$1"), (0, .class_ 857), (0, u "java/util/Collections$CheckedList$1"), (0, .class_ 859), (0, u "java/util/Collections$CheckedCollection$1"), (0, .class_ 861), (0, u "java/util/Collections$UnmodifiableNavigableMap$EmptyNavigableMap"), (0, .class_ 863), (0, u "java/util/Collections$UnmodifiableMap$UnmodifiableEntrySet"), (0, .class_ 865), (0, u "java/util/Collections$UnmodifiableMap$UnmodifiableEntrySet$UnmodifiableEntry"), (0, .class_ 867), (0, u "java/util/Collections$UnmodifiableMap$UnmodifiableEntrySet$UnmodifiableEntrySetSpliterator"), (0, .class_ 869), (0, u "java/util/Collections$UnmodifiableMap$UnmodifiableEntrySet$1"), (0, .class_ 871), (0, u "java/util/Collections$UnmodifiableList$1"), (0, .class_ 873), (0, u "java/util/Collections$UnmodifiableNavigableSet$EmptyNavigableSet"), (0, .class_ 875), (0, u "java/util/Collections$UnmodifiableCollection$1")] 57

def k12m0 : Method := { name := "<init>", desc := "()V", sig := { parameters := [], returnType := none }, accessFlags := 2, code := none }
/-- java/util/Collections -/
def k12 : Class := { plain "java/util/Collections" (some 0) with
  accessFlags := 33
  interfaces := #[]
  cf := some (fileOf pool12 19 #[.nestMembers #[478, 473, 469, 434, 423, 417, 393, 390, 380, 497, 494, 491, 355, 350, 344, 338, 333, 328, 850, 852, 854, 320, 325, 856, 315, 310, 305, 300, 287, 858, 284, 281, 278, 268, 271, 265, 262, 256, 250, 245, 860, 237, 231, 223, 862, 864, 866, 868, 215, 212, 870, 206, 872, 198, 190, 182, 174, 166, 874, 442, 387, 384]] #[{ accessFlags := 2, nameIndex := 5, descriptorIndex := 6, attributes := #[] }] 33 2 #[] #[{ accessFlags := 26, nameIndex := 500, descriptorIndex := 501, attributes := #[] }, { accessFlags := 26, nameIndex := 504, descriptorIndex := 501, attributes := #[] }, { accessFlags := 26, nameIndex := 506, descriptorIndex := 501, attributes := #[] }, { accessFlags := 26, nameIndex := 508, descriptorIndex := 501, attributes := #[] }, { accessFlags := 26, nameIndex := 510, descriptorIndex := 501, attributes := #[] }, { accessFlags := 26, nameIndex := 512, descriptorIndex := 501, attributes := #[] }, { accessFlags := 26, nameIndex := 514, descriptorIndex := 501, attributes := #[] }, { accessFlags := 26, nameIndex := 516, descriptorIndex := 501, attributes := #[] }, { accessFlags := 10, nameIndex := 84, descriptorIndex := 85, attributes := #[] }, { accessFlags := 25, nameIndex := 362, descriptorIndex := 363, attributes := #[] }, { accessFlags := 25, nameIndex := 370, descriptorIndex := 371, attributes := #[] }, { accessFlags := 25, nameIndex := 374, descriptorIndex := 375, attributes := #[] }])
  fields := #[{ name := "BINARYSEARCH_THRESHOLD", type := .int, accessFlags := 26, slot := 0, constantValue := 0 }, { name := "REVERSE_THRESHOLD", type := .int, accessFlags := 26, slot := 1, constantValue := 0 }, { name := "SHUFFLE_THRESHOLD", type := .int, accessFlags := 26, slot := 2, constantValue := 0 }, { name := "FILL_THRESHOLD", type := .int, accessFlags := 26, slot := 3, constantValue := 0 }, { name := "ROTATE_THRESHOLD", type := .int, accessFlags := 26, slot := 4, constantValue := 0 }, { name := "COPY_THRESHOLD", type := .int, accessFlags := 26, slot := 5, constantValue := 0 }, { name := "REPLACEALL_THRESHOLD", type := .int, accessFlags := 26, slot := 6, constantValue := 0 }, { name := "INDEXOFSUBLIST_THRESHOLD", type := .int, accessFlags := 26, slot := 7, constantValue := 0 }, { name := "r", type := (.object "java/util/Random"), accessFlags := 10, slot := 8, constantValue := 0 }, { name := "EMPTY_SET", type := (.object "java/util/Set"), accessFlags := 25, slot := 9, constantValue := 0 }, { name := "EMPTY_LIST", type := (.object "java/util/List"), accessFlags := 25, slot := 10, constantValue := 0 }, { name := "EMPTY_MAP", type := (.object "java/util/Map"), accessFlags := 25, slot := 11, constantValue := 0 }]
  methods := #[k12m0]
  instanceTypes := #[]
  staticTypes := #[.int, .int, .int, .int, .int, .int, .int, .int, (.object "java/util/Random"), (.object "java/util/Set"), (.object "java/util/List"), (.object "java/util/Map")]
  resolved := Array.replicate 933 none
  statics := some 1 }

def pool13 : Array CpInfo := pool [(8, .class_ 10), (1, u "java/lang/Iterable"), (24, .class_ 36), (0, u "java/lang/Object")] 25

/-- java/lang/Iterable -/
def k13 : Class := { plain "java/lang/Iterable" (some 0) with
  accessFlags := 1537
  interfaces := #[]
  cf := some (fileOf pool13 8 #[] #[] 1537 35 #[] #[])
  fields := #[]
  methods := #[]
  instanceTypes := #[]
  staticTypes := #[]
  resolved := Array.replicate 62 none
  statics := none }

def pool14 : Array CpInfo := pool [(10, .class_ 12), (1, u "java/util/Collection"), (47, .class_ 61), (0, u "java/lang/Object"), (0, .class_ 63), (0, u "java/lang/Iterable")] 51

/-- java/util/Collection -/
def k14 : Class := { plain "java/util/Collection" (some 0) with
  accessFlags := 1537
  interfaces := #[13]
  cf := some (fileOf pool14 10 #[] #[] 1537 60 #[62] #[])
  fields := #[]
  methods := #[]
  instanceTypes := #[]
  staticTypes := #[]
  resolved := Array.replicate 115 none
  statics := none }

def pool15 : Array CpInfo := pool [(2, .class_ 4), (1, u "java/lang/Object"), (0, u "<init>"), (0, u "()V"), (1, .class_ 10), (1, u "java/util/AbstractCollection"), (66, .class_ 78), (0, u "java/util/Collection")] 81

def k15m0 : Method := { name := "<init>", desc := "()V", sig := { parameters := [], returnType := none }, accessFlags := 4, code := none }
/-- java/util/AbstractCollection -/
def k15 : Class := { plain "java/util/AbstractCollection" (some 0) with
  accessFlags := 1057
  interfaces := #[14]
  cf := some (fileOf pool15 8 #[] #[{ accessFlags := 4, nameIndex := 5, descriptorIndex := 6, attributes := #[] }] 1057 2 #[77] #[])
  fields := #[]
  methods := #[k15m0]
  instanceTypes := #[]
  staticTypes := #[]
  resolved := Array.replicate 160 none
  statics := none }

def pool16 : Array CpInfo := pool [(8, .class_ 10), (1, u "java/util/SequencedCollection"), (15, .class_ 27), (0, u "java/lang/Object"), (0, .class_ 29), (0, u "java/util/Collection")] 27

/-- java/util/SequencedCollection -/
def k16 : Class := { plain "java/util/SequencedCollection" (some 0) with
  accessFlags := 1537
  interfaces := #[14]
  cf := some (fileOf pool16 8 #[] #[] 1537 26 #[28] #[])
  fields := #[]
  methods := #[]
  instanceTypes := #[]
  staticTypes := #[]
  resolved := Array.replicate 57 none
  statics := none }

def pool17 : Array CpInfo := pool [(8, .class_ 10), (1, u "java/util/List"), (92, .class_ 104), (0, u "java/lang/Object"), (15, .class_ 121), (0, u "java/util/SequencedCollection")] 129

/-- java/util/List -/
def k17 : Class := { plain "java/util/List" (some 0) with
  accessFlags := 1537
  interfaces := #[16]
  cf := some (fileOf pool17 8 #[] #[] 1537 103 #[120] #[])
  fields := #[]
  methods := #[]
  instanceTypes := #[]
  staticTypes := #[]
  resolved := Array.replicate 251 none
  statics := none }

def pool18 : Array CpInfo := pool [(2, .class_ 4), (1, u "java/util/AbstractCollection"), (0, u "<init>"), (0, u "()V"), (1, .class_ 10), (1, u "java/util/AbstractList"), (0, u "modCount"), (0, u "I"), (64, .class_ 78), (0, u "java/util/AbstractList$Itr"), (3, .class_ 83), (0, u "java/util/AbstractList$ListItr"), (9, .class_ 94), (0, u "java/util/AbstractList$RandomAccessSubList"), (3, .class_ 99), (0, u "java/util/AbstractList$SubList"), (33, .class_ 134), (0, u "java/util/List"), (73, .class_ 209), (0, u "java/util/AbstractList$SubList$1"), (0, .class_ 211), (0, u "java/util/AbstractList$RandomAccessSpliterator")] 6

def k18m0 : Method := { name := "<init>", desc := "()V", sig := { parameters := [], returnType := none }, accessFlags := 4, code := none }
/-- java/util/AbstractList -/
def k18 : Class := { plain "java/util/AbstractList" (some 15) with
  accessFlags := 1057
  interfaces := #[17]
  cf := some (fileOf pool18 8 #[.nestMembers #[93, 98, 208, 210, 82, 77]] #[{ accessFlags := 4, nameIndex := 5, descriptorIndex := 6, attributes := #[] }] 1057 2 #[133] #[{ accessFlags := 132, nameIndex := 11, descriptorIndex := 12, attributes := #[] }])
  fields := #[{ name := "modCount", type := .int, accessFlags := 132, slot := 0, constantValue := 0 }]
  methods := #[k18m0]
  instanceTypes := #[.int]
  staticTypes := #[]
  resolved := Array.replicate 218 none
  statics := none }

def pool19 : Array CpInfo := pool [(1, .class_ 2), (0, u "java/util/RandomAccess"), (0, .class_ 4), (0, u "java/lang/Object")] 2

/-- java/util/RandomAccess -/
def k19 : Class := { plain "java/util/RandomAccess" (some 0) with
  accessFlags := 1537
  interfaces := #[]
  cf := some (fileOf pool19 1 #[] #[] 1537 3 #[] #[])
  fields := #[]
  methods := #[]
  instanceTypes := #[]
  staticTypes := #[]
  resolved := Array.replicate 7 none
  statics := none }

def pool20 : Array CpInfo := pool [(2, .class_ 4), (1, u "java/util/AbstractList"), (0, u "<init>"), (0, u "()V"), (1, .class_ 10), (1, u "java/util/Collections"), (54, .class_ 66), (0, u "java/util/Collections$EmptyList"), (0, .class_ 68), (0, u "java/util/RandomAccess"), (0, .class_ 70), (0, u "java/io/Serializable"), (0, u "serialVersionUID"), (0, u "J")] 77

def k20m0 : Method := { name := "<init>", desc := "()V", sig := { parameters := [], returnType := none }, accessFlags := 2, code := none }
/-- java/util/Collections$EmptyList -/
def k20 : Class := { plain "java/util/Collections$EmptyList" (some 18) with
  accessFlags := 32
  interfaces := #[19, 2]
  cf := some (fileOf pool20 65 #[.nestHost 8] #[{ accessFlags := 2, nameIndex := 5, descriptorIndex := 6, attributes := #[] }] 32 2 #[67, 69] #[{ accessFlags := 26, nameIndex := 71, descriptorIndex := 72, attributes := #[] }])
  fields := #[{ name := "serialVersionUID", type := .long, accessFlags := 26, slot := 0, constantValue := 0 }]
  methods := #[k20m0]
  instanceTypes := #[.int]
  staticTypes := #[.long]
  resolved := Array.replicate 150 none
  statics := none }

def pool21 : Array CpInfo := pool [(2, .class_ 4), (1, u "java/lang/StackTraceElement"), (0, u "<init>"), (2, .class_ 10), (1, u "java/lang/Object"), (0, u "()V"), (2, u "format"), (0, u "B"), (2, u "classLoaderName"), (0, u "Ljava/lang/String;"), (2, u "moduleName"), (2, u "moduleVersion"), (12, u "declaringClass"), (4, u "methodName"), (2, u "fileName"), (2, u "lineNumber"), (0, u "I"), (65, u "declaringClassObject"), (0, u "Ljava/lang/Class;"), (33, .class_ 153), (1, u "java/lang/StackTraceElement$HashedModules"), (17, .class_ 172), (0, u "java/io/Serializable"), (0, u "NATIVE_METHOD"), (1, u "UNKNOWN_SOURCE"), (2, u "BUILTIN_CLASS_LOADER"), (1, u "JDK_NON_UPGRADEABLE_MODULE"), (1, u "serialVersionUID"), (0, u "J")] 51

def k21m0 : Method := { name := "<init>", desc := "()V", sig := { parameters := [], returnType := none }, accessFlags := 2, code := none }
/-- java/lang/StackTraceElement -/
def k21 : Class := { plain "java/lang/StackTraceElement" (some 0) with
  accessFlags := 49
  interfaces := #[2]
  cf := some (fileOf pool21 2 #[.nestMembers #[151]] #[{ accessFlags := 2, nameIndex := 5, descriptorIndex := 11, attributes := #[] }] 49 8 #[171] #[{ accessFlags := 26, nameIndex := 173, descriptorIndex := 19, attributes := #[] }, { accessFlags := 26, nameIndex := 175, descriptorIndex := 19, attributes := #[] }, { accessFlags := 130, nameIndex := 116, descriptorIndex := 117, attributes := #[] }, { accessFlags := 2, nameIndex := 18, descriptorIndex := 19, attributes := #[] }, { accessFlags := 2, nameIndex := 22, descriptorIndex := 19, attributes := #[] }, { accessFlags := 2, nameIndex := 25, descriptorIndex := 19, attributes := #[] }, { accessFlags := 2, nameIndex := 38, descriptorIndex := 19, attributes := #[] }, { accessFlags := 2, nameIndex := 43, descriptorIndex := 19, attributes := #[] }, { accessFlags := 2, nameIndex := 46, descriptorIndex := 19, attributes := #[] }, { accessFlags := 2, nameIndex := 49, descriptorIndex := 50, attributes := #[] }, { accessFlags := 2, nameIndex := 14, descriptorIndex := 15, attributes := #[] }, { accessFlags := 26, nameIndex := 178, descriptorIndex := 15, attributes := #[] }, { accessFlags := 26, nameIndex := 180, descriptorIndex := 15, attributes := #[] }, { accessFlags := 26, nameIndex := 182, descriptorIndex := 183, attributes := #[] }])
  fields := #[{ name := "NATIVE_METHOD", type := (.object "java/lang/String"), accessFlags := 26, slot := 0, constantValue := 0 }, { name := "UNKNOWN_SOURCE", type := (.object "java/lang/String"), accessFlags := 26, slot := 1, constantValue := 0 }, { name := "declaringClassObject", type := (.object "java/lang/Class"), accessFlags := 130, slot := 0, constantValue := 0 }, { name := "classLoaderName", type := (.object "java/lang/String"), accessFlags := 2, slot := 1, constantValue := 0 }, { name := "moduleName", type := (.object "java/lang/String"), accessFlags := 2, slot := 2, constantValue := 0 }, { name := "moduleVersion", type := (.object "java/lang/String"), accessFlags := 2, slot := 3, constantValue := 0 }, { name := "declaringClass", type := (.object "java/lang/String"), accessFlags := 2, slot := 4, constantValue := 0 }, { name := "methodName", type := (.object "java/lang/String"), accessFlags := 2, slot := 5, constantValue := 0 }, { name := "fileName", type := (.object "java/lang/String"), accessFlags := 2, slot := 6, constantValue := 0 }, { name := "lineNumber", type := .int, accessFlags := 2, slot := 7, constantValue := 0 }, { name := "format", type := .byte, accessFlags := 2, slot := 8, constantValue := 0 }, { name := "BUILTIN_CLASS_LOADER", type := .byte, accessFlags := 26, slot := 2, constantValue := 0 }, { name := "JDK_NON_UPGRADEABLE_MODULE", type := .byte, accessFlags := 26, slot := 3, constantValue := 0 }, { name := "serialVersionUID", type := .long, accessFlags := 26, slot := 4, constantValue := 0 }]
  methods := #[k21m0]
  instanceTypes := #[(.object "java/lang/Class"), (.object "java/lang/String"), (.object "java/lang/String"), (.object "java/lang/String"), (.object "java/lang/String"), (.object "java/lang/String"), (.object "java/lang/String"), .int, .byte]
  staticTypes := #[(.object "java/lang/String"), (.object "java/lang/String"), .byte, .byte, .long]
  resolved := Array.replicate 235 none
  statics := none }

def pool22 : Array CpInfo := pool [(1, u "java/lang/Cloneable"), (0, .class_ 1), (0, u "java/lang/Object"), (0, .class_ 3)] 3

/-- java/lang/Cloneable -/
def k22 : Class := { plain "java/lang/Cloneable" (some 0) with
  accessFlags := 1537
  interfaces := #[]
  cf := some (fileOf pool22 2 #[] #[] 1537 4 #[] #[])
  fields := #[]
  methods := #[]
  instanceTypes := #[]
  staticTypes := #[]
  resolved := Array.replicate 8 none
  statics := none }

/-- the primitive byte -/
def k23 : Class := { plain "byte" none with kind := .primitive 'B', accessFlags := 0x411 }
/-- [B -/
def k24 : Class := { plain "[B" (some 0) with kind := .array 23 .byte, interfaces := #[22, 2], accessFlags := 1041 }

/-- the primitive int -/
def k25 : Class := { plain "int" none with kind := .primitive 'I', accessFlags := 0x411 }
/-- [I -/
def k26 : Class := { plain "[I" (some 0) with kind := .array 25 .int, interfaces := #[22, 2], accessFlags := 1041 }

/-- [Ljava/lang/Object; -/
def k27 : Class := { plain "[Ljava/lang/Object;" (some 0) with kind := .array 0 (.object "java/lang/Object"), interfaces := #[22, 2], accessFlags := 1041 }

/-- [Ljava/lang/StackTraceElement; -/
def k28 : Class := { plain "[Ljava/lang/StackTraceElement;" (some 0) with kind := .array 21 (.object "java/lang/StackTraceElement"), interfaces := #[22, 2], accessFlags := 1041 }

/-- [Ljava/lang/Throwable; -/
def k29 : Class := { plain "[Ljava/lang/Throwable;" (some 0) with kind := .array 3 (.object "java/lang/Throwable"), interfaces := #[22, 2], accessFlags := 1041 }

def heap : Heap := #[{ cls := 3, slots := #[.long 0, .ref 2, .ref 3, .null, .null, .null, .null, .ref 4, .int 1], vm := .statics 3 },
  { cls := 12, slots := #[.int 0, .int 0, .int 0, .int 0, .int 0, .int 0, .int 0, .int 0, .null, .null, .ref 3, .null], vm := .statics 12 },
  { cls := 28, slots := #[], vm := .none },
  { cls := 20, slots := #[.int 0], vm := .none },
  { cls := 29, slots := #[], vm := .none }]
def classes : Array Class := #[k0, k1, k2, k3, k4, k5, k6, k7, k8, k9, k10, k11, k12, k13, k14, k15, k16, k17, k18, k19, k20, k21, k22, k23, k24, k25, k26, k27, k28, k29]
def interned : List (Array UInt16 × Addr) := []
def slotsUsed : Nat := 22
def theMethod : MethodId := ⟨1, 1⟩
def args0 : Array Value := #[.int 5, .int 7]
def aboutOver (below : List Frame) : State where
  vm := { classes := classes, interned := interned.toArray }
  heap := heap
  slotsUsed := slotsUsed
  threads := #[{ frames := .invoking theMethod args0 :: below }]
def below0 : List Frame := [.native { method := ⟨0, 0⟩, args := #[] }]
def about1 : State := aboutOver below0
def p0 : Program := .bare "" "" ""
def e0 : Env := launch0.env 0 0 0
theorem w_frames : about1.frames = Frame.invoking theMethod args0 :: below0 := rfl
set_option maxRecDepth 65536 in
theorem w_args : argsFit about1.vm theMethod args0 = true := by decide +kernel
set_option maxRecDepth 65536 in
theorem w_heap : heapFits about1 = true := by decide +kernel
set_option maxRecDepth 65536 in
theorem w_runnable : about1.curStatus? = some .runnable := by decide +kernel
set_option maxRecDepth 65536 in
theorem w_alone : about1.alone = true := by decide +kernel
set_option maxRecDepth 65536 in
theorem w_named : about1.methodNamed? x = some theMethod := by decide +kernel
set_option maxRecDepth 65536 in
theorem w_hears : about1.hears theMethod below0 = true := by decide +kernel
set_option maxRecDepth 65536 in
theorem w_ripe : about1.ripe theMethod args0 below0 = true := by decide +kernel
theorem w_running : about1.status = .running := rfl
set_option maxRecDepth 65536 in
theorem w_room : about1.hasRoom e0.platform room_1 = true :=
  launch0.hasRoom_least _ room_1 (by decide +kernel) (by decide +kernel) (by decide +kernel) (by decide +kernel) (by decide +kernel) (by decide +kernel)
theorem allAtoms_all (ts : List Jvm.Cond) (a : Array Jvm.Value) (st : Jvm.State) : (allAtoms ts).before a st = ts.all (fun c => c.before a st) := by
  induction ts with
  | nil => rfl
  | cons c t ih =>
    show (Jvm.Cond.and c (allAtoms t)).before a st = _
    rw [Jvm.Cond.before_and, ih, List.all_cons]
def words1 : List Jvm.Cond := Jvm.Cond.code x code maxLocals ret :: tables_1
/-- a 'code' word, met by the world's own term for the bytes: nothing is compared byte by byte -/
theorem code_word {y : MethodName} {bytes : ByteArray} {mx : Nat} {rt : Option FieldType} {a : Array Value} {s : State} {m : MethodId} {meth : Method} {c : Code} (h1 : s.methodNamed? y = some m) (h2 : s.vm.method? m = some meth) (h3 : meth.code = some c) (h4 : c.code = bytes)
    (h5 : (c.maxLocals == mx && c.exceptionTable.isEmpty && decide (c.maxStack ≤ mostOperands) && decide (meth.sig.returnType = rt) && !meth.locks && decide (parseMethodDescriptor y.desc = some meth.sig)) = true) : (Jvm.Cond.code y bytes mx rt).before a s = true := by
  simp only [Bool.and_eq_true, beq_iff_eq, Bool.not_eq_true', decide_eq_true_eq] at h5
  obtain ⟨⟨⟨⟨⟨g1, g2⟩, g3⟩, g4⟩, g5⟩, g6⟩ := h5
  simp [Cond.before, Cond.holds, Cond.value, h1, h2, h3, h4, g1, g2, g3, g4, g5, g6]
def isCode : Jvm.Cond → Bool
  | .code _ _ _ _ => true
  | _ => false
theorem all_split {L : List Jvm.Cond} {P : Jvm.Cond → Bool} (h1 : L.all (fun c => isCode c || P c) = true) (h2 : ∀ c ∈ L.filter isCode, P c = true) : L.all P = true := by
  refine List.all_eq_true.mpr fun c hc => ?_
  have h := List.all_eq_true.mp h1 c hc
  rcases Bool.eq_false_or_eq_true (isCode c) with hi | hi
  · exact h2 c (List.mem_filter.mpr ⟨hc, hi⟩)
  · simpa [hi] using h
set_option maxRecDepth 65536 in
theorem w_c0 : (Jvm.Cond.code x code maxLocals ret).before args0 about1 = true := code_word (m := ⟨1, 1⟩) (meth := k1m1) (c := k1c1) (by decide +kernel) rfl rfl rfl (by decide +kernel)
set_option maxRecDepth 65536 in
theorem w_c1 : (Jvm.Cond.code ({ cls := "com/example/ordr/ordr/io/DotSyntaxException", name := "<init>", desc := "(IILjava/lang/String;)V" } : Jvm.MethodName) prog_12_method_1_code (4 : Nat) (Option.none : Option Jvm.ClassFile.FieldType)).before args0 about1 = true := code_word (m := ⟨6, 0⟩) (meth := k6m0) (c := k6c0) (by decide +kernel) rfl rfl rfl (by decide +kernel)
set_option maxRecDepth 65536 in
theorem w_c2 : (Jvm.Cond.code ({ cls := "java/io/IOException", name := "<init>", desc := "(Ljava/lang/String;)V" } : Jvm.MethodName) jdk_131_method_2_code (2 : Nat) (Option.none : Option Jvm.ClassFile.FieldType)).before args0 about1 = true := code_word (m := ⟨5, 1⟩) (meth := k5m1) (c := k5c1) (by decide +kernel) rfl rfl rfl (by decide +kernel)
set_option maxRecDepth 65536 in
theorem w_c3 : (Jvm.Cond.code ({ cls := "java/lang/Exception", name := "<init>", desc := "(Ljava/lang/String;)V" } : Jvm.MethodName) jdk_59_method_2_code (2 : Nat) (Option.none : Option Jvm.ClassFile.FieldType)).before args0 about1 = true := code_word (m := ⟨4, 1⟩) (meth := k4m1) (c := k4c1) (by decide +kernel) rfl rfl rfl (by decide +kernel)
set_option maxRecDepth 65536 in
theorem w_c4 : (Jvm.Cond.code ({ cls := "java/lang/Throwable", name := "<init>", desc := "(Ljava/lang/String;)V" } : Jvm.MethodName) jdk_78_method_2_code (2 : Nat) (Option.none : Option Jvm.ClassFile.FieldType)).before args0 about1 = true := code_word (m := ⟨3, 1⟩) (meth := k3m1) (c := k3c1) (by decide +kernel) rfl rfl rfl (by decide +kernel)
set_option maxRecDepth 65536 in
theorem w_c5 : (Jvm.Cond.code ({ cls := "java/lang/Object", name := "<init>", desc := "()V" } : Jvm.MethodName) object_method_1_code (1 : Nat) (Option.none : Option Jvm.ClassFile.FieldType)).before args0 about1 = true := code_word (m := ⟨0, 0⟩) (meth := k0m0) (c := k0c0) (by decide +kernel) rfl rfl rfl (by decide +kernel)
set_option maxRecDepth 65536 in
theorem w_c6 : (Jvm.Cond.code ({ cls := "java/lang/Throwable", name := "<init>", desc := "()V" } : Jvm.MethodName) jdk_78_method_1_code (1 : Nat) (Option.none : Option Jvm.ClassFile.FieldType)).before args0 about1 = true := code_word (m := ⟨3, 0⟩) (meth := k3m0) (c := k3c0) (by decide +kernel) rfl rfl rfl (by decide +kernel)
set_option maxRecDepth 65536 in
theorem w_c7 : (Jvm.Cond.code ({ cls := "com/example/ordr/ordr/io/DotSyntaxException", name := "<init>", desc := "(Ljava/lang/String;)V" } : Jvm.MethodName) prog_12_method_2_code (2 : Nat) (Option.none : Option Jvm.ClassFile.FieldType)).before args0 about1 = true := code_word (m := ⟨6, 1⟩) (meth := k6m1) (c := k6c1) (by decide +kernel) rfl rfl rfl (by decide +kernel)
set_option maxRecDepth 65536 in
theorem w_c8 : (Jvm.Cond.code ({ cls := "com/example/ordr/ordr/io/DotSyntaxException", name := "hasPlace", desc := "()Z" } : Jvm.MethodName) prog_12_method_3_code (1 : Nat) (Option.some Jvm.ClassFile.FieldType.boolean)).before args0 about1 = true := code_word (m := ⟨6, 2⟩) (meth := k6m2) (c := k6c2) (by decide +kernel) rfl rfl rfl (by decide +kernel)
set_option maxRecDepth 65536 in
theorem w_c9 : (Jvm.Cond.code ({ cls := "com/example/ordr/ordr/io/DotSyntaxException", name := "line", desc := "()I" } : Jvm.MethodName) prog_12_method_4_code (1 : Nat) (Option.some Jvm.ClassFile.FieldType.int)).before args0 about1 = true := code_word (m := ⟨6, 3⟩) (meth := k6m3) (c := k6c3) (by decide +kernel) rfl rfl rfl (by decide +kernel)
set_option maxRecDepth 65536 in
theorem w_c10 : (Jvm.Cond.code ({ cls := "com/example/ordr/ordr/io/DotSyntaxException", name := "column", desc := "()I" } : Jvm.MethodName) prog_12_method_5_code (1 : Nat) (Option.some Jvm.ClassFile.FieldType.int)).before args0 about1 = true := code_word (m := ⟨6, 4⟩) (meth := k6m4) (c := k6c4) (by decide +kernel) rfl rfl rfl (by decide +kernel)
def codes1 : List Jvm.Cond := [Jvm.Cond.code x code maxLocals ret, Jvm.Cond.code ({ cls := "com/example/ordr/ordr/io/DotSyntaxException", name := "<init>", desc := "(IILjava/lang/String;)V" } : Jvm.MethodName) prog_12_method_1_code (4 : Nat) (Option.none : Option Jvm.ClassFile.FieldType), Jvm.Cond.code ({ cls := "java/io/IOException", name := "<init>", desc := "(Ljava/lang/String;)V" } : Jvm.MethodName) jdk_131_method_2_code (2 : Nat) (Option.none : Option Jvm.ClassFile.FieldType), Jvm.Cond.code ({ cls := "java/lang/Exception", name := "<init>", desc := "(Ljava/lang/String;)V" } : Jvm.MethodName) jdk_59_method_2_code (2 : Nat) (Option.none : Option Jvm.ClassFile.FieldType), Jvm.Cond.code ({ cls := "java/lang/Throwable", name := "<init>", desc := "(Ljava/lang/String;)V" } : Jvm.MethodName) jdk_78_method_2_code (2 : Nat) (Option.none : Option Jvm.ClassFile.FieldType), Jvm.Cond.code ({ cls := "java/lang/Object", name := "<init>", desc := "()V" } : Jvm.MethodName) object_method_1_code (1 : Nat) (Option.none : Option Jvm.ClassFile.FieldType), Jvm.Cond.code ({ cls := "java/lang/Throwable", name := "<init>", desc := "()V" } : Jvm.MethodName) jdk_78_method_1_code (1 : Nat) (Option.none : Option Jvm.ClassFile.FieldType), Jvm.Cond.code ({ cls := "com/example/ordr/ordr/io/DotSyntaxException", name := "<init>", desc := "(Ljava/lang/String;)V" } : Jvm.MethodName) prog_12_method_2_code (2 : Nat) (Option.none : Option Jvm.ClassFile.FieldType), Jvm.Cond.code ({ cls := "com/example/ordr/ordr/io/DotSyntaxException", name := "hasPlace", desc := "()Z" } : Jvm.MethodName) prog_12_method_3_code (1 : Nat) (Option.some Jvm.ClassFile.FieldType.boolean), Jvm.Cond.code ({ cls := "com/example/ordr/ordr/io/DotSyntaxException", name := "line", desc := "()I" } : Jvm.MethodName) prog_12_method_4_code (1 : Nat) (Option.some Jvm.ClassFile.FieldType.int), Jvm.Cond.code ({ cls := "com/example/ordr/ordr/io/DotSyntaxException", name := "column", desc := "()I" } : Jvm.MethodName) prog_12_method_5_code (1 : Nat) (Option.some Jvm.ClassFile.FieldType.int)]
set_option maxRecDepth 65536 in
theorem codes_eq : words1.filter isCode = codes1 := rfl
theorem w_codes : ∀ c ∈ words1.filter isCode, c.before args0 about1 = true := by
  rw [codes_eq]
  intro c hc
  simp only [codes1, List.mem_cons, List.not_mem_nil, or_false] at hc
  rcases hc with rfl | rfl | rfl | rfl | rfl | rfl | rfl | rfl | rfl | rfl | rfl
  · exact w_c0
  · exact w_c1
  · exact w_c2
  · exact w_c3
  · exact w_c4
  · exact w_c5
  · exact w_c6
  · exact w_c7
  · exact w_c8
  · exact w_c9
  · exact w_c10
set_option maxRecDepth 65536 in
theorem w_t1 : (words1.take 24).all (fun c => isCode c || c.before args0 about1) = true := by decide +kernel
set_option maxRecDepth 65536 in
theorem w_t2 : ((words1.drop 24).take 24).all (fun c => isCode c || c.before args0 about1) = true := by decide +kernel
set_option maxRecDepth 65536 in
theorem w_t3 : (((words1.drop 24).drop 24).take 24).all (fun c => isCode c || c.before args0 about1) = true := by decide +kernel
set_option maxRecDepth 65536 in
theorem w_t4 : (((words1.drop 24).drop 24).drop 24).all (fun c => isCode c || c.before args0 about1) = true := by decide +kernel
theorem w_tables : (allAtoms (Jvm.Cond.code x code maxLocals ret :: tables_1)).before args0 about1 = true := by
  rw [allAtoms_all]
  show words1.all (fun c => c.before args0 about1) = true
  refine all_split ?_ w_codes
  rw [← List.take_append_drop 24 words1, List.all_append, w_t1, ← List.take_append_drop 24 (words1.drop 24), List.all_append, w_t2, ← List.take_append_drop 24 ((words1.drop 24).drop 24), List.all_append, w_t3, w_t4]
  rfl
set_option maxRecDepth 65536 in
theorem w_rest : rest_1_c.before args0 about1 = true := by decide +kernel
set_option maxRecDepth 65536 in
theorem w_case : (Jvm.Cond.and given_1 narrow_1).before args0 about1 = true := by decide +kernel
theorem w_applies : (headSpec (Jvm.Cond.code x code maxLocals ret :: tables_1) room_1).applies x e0.platform about1 = true :=
  (Spec.applies_iff w_frames).mpr ⟨w_running, w_runnable, w_alone, w_named, w_hears, w_ripe, w_room, w_tables⟩
theorem atStart : AtStart classFile x code maxLocals ret World_1 tables_1 room_1 Calls_1 rest_1 Pre_1 launch0 p0 e0 about1 theMethod args0 below0 :=
  ⟨lists_1, trivial, launch0.admits_env _ _ _, launch0.least_env, fairChoices_fair.cas, fairChoices_fair.clock, w_frames, w_args, w_heap, w_applies, ⟨(by decide +kernel : framesKnown about1 = true), ⟨(by decide +kernel : tablesKnown about1 = true), trivial⟩⟩, w_rest, w_case⟩
end start1
theorem witness_1 : WitnessClaimed_1 := ⟨start1.p0, start1.e0, start1.about1, start1.theMethod, start1.args0, start1.below0, start1.atStart⟩
end Jvm.Pilot.@@N@@
