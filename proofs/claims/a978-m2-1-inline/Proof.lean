import JvmDerived
import JvmDerived.Pilot.@@N@@Statement
import JvmDerived.Pilot.@@N@@Code
set_option linter.unusedVariables false
set_option linter.unusedSimpArgs false
namespace Jvm.Pilot.@@N@@
open Jvm Jvm.ClassFile Sem Op Lib Jvm.Free Jvm.Stand Jvm.LawKit Jvm.RoadKit Bundle Jvm.Pilot.@@N@@.Jvm.D
/-- from S the run comes to a state that P allows -/
def Comes (p : Program) (e : Env) (below : List Frame) (P : State → Prop) (S : State) : Prop := ∃ S', Steps p.tables e below S S' ∧ P S'
/-- how a body ends that Q allows -/
def EndsAt (below : List Frame) (s : State) (Q : Option Value → Heap → List Loc → Prop) (kc ks : Nat) (s₂ : State) : Prop := ∃ o, s₂.status = .running ∧ Ended s₂ below o ∧ ∃ v L, o = .returned v ∧ Q v s₂.heap L ∧ FrameEnd s o s₂ L kc ks
/-- an array of ints, its content a function -/
def Ari (Z : State) (h : Heap) (a : Nat) (n : Nat) (f : Nat → Int32) : Prop := ∃ c : Cell, Arr Z h a c .int ∧ c.slots.size = n ∧ ∀ i, i < n → c.slots[i]? = some (.int (f i))
section OwnAri
variable {Z : State} {h h' : Heap} {a b n sl : Nat} {f : Nat → Int32} {v : Value} {ws : List Addr}
theorem Ari.lt (F : Ari Z h a n f) : a < h.size := by obtain ⟨c, A, -⟩ := F; exact A.lt
theorem Ari.ext (F : Ari Z h a n f) (E : Ext h h') : Ari Z h' a n f := by obtain ⟨c, A, r⟩ := F; exact ⟨c, A.ext E, r⟩
theorem Ari.other (F : Ari Z h b n f) (W : Wr h h' a sl v) (q : b ≠ a) : Ari Z h' b n f := by obtain ⟨c, A, r⟩ := F; exact ⟨c, A.other W q, r⟩
theorem Ari.keep (F : Ari Z h a n f) (K : Keep h h' ws) (q : a ∉ ws) : Ari Z h' a n f := by obtain ⟨c, A, r⟩ := F; exact ⟨c, ⟨K.2.1 a c A.1 q, A.2⟩, r⟩
theorem Ari.new {k : ClassId} {z : Int32} (A : Arr Z h a (newA k .int z) .int) (q : z.toNatClampNeg = n) : Ari Z h a n (fun _ => 0) := by
  refine ⟨_, A, by rw [sz_new, q], fun i hi => ?_⟩
  simp [newA, q, hi, defaultValue]
theorem Ari.set {c : Cell} (A : Arr Z h a c .int) (S : c.slots.size = n) (H : ∀ i, i < n → c.slots[i]? = some (.int (f i))) {j x : Int32} {k : Nat} (W : Wr h h' a j.toNatClampNeg (.int x)) (hk : j.toNatClampNeg = k) : Ari Z h' a n (fun i => if i = k then x else f i) := by
  subst hk
  refine ⟨_, A.same W, by rw [sz_set]; exact S, fun i hi => ?_⟩
  by_cases q : i = j.toNatClampNeg
  · subst q; simp [Cell.setSlot, S, hi]
  · show _ = some (Value.int (if i = j.toNatClampNeg then x else f i))
    rw [if_neg q, ← H i hi]; exact Array.getElem?_setIfInBounds_ne (fun z => q z.symm)
end OwnAri
section Own
variable {p : Program} {l : Launch} {e : Env} {R : Room} {s : State} {m : MethodId} {args : Array Value} {below : List Frame} {meth : Method} {c : Code} {T : State} {locs : List Loc} {cells slots : Nat} {Q : Option Value → Heap → List Loc → Prop} {kc ks : Nat} {P : State → Prop} {S S' : State} {h : Heap}
theorem Comes.here (q : P S) : Comes p e below P S := ⟨S, Steps.refl _, q⟩
theorem Comes.st (f : ∀ t, Steps p.tables e below S' t → Steps p.tables e below S t) (g : Comes p e below P S') : Comes p e below P S := by
  obtain ⟨s₂, h1, r⟩ := g; exact ⟨s₂, f _ h1, r⟩
theorem Comes.go (f : Steps p.tables e below S S') (g : Comes p e below P S') : Comes p e below P S := by
  obtain ⟨s₂, h1, r⟩ := g; exact ⟨s₂, f.trans h1, r⟩
theorem Comes.cast {g g' : JFrame} (q : g = g') (k : Comes p e below P (T.setTop g')) : Comes p e below P (T.setTop g) := q ▸ k
theorem Comes.out (h : Comes p e below (EndsAt below s Q kc ks) S) : ∃ s₂ o, Steps p.tables e below S s₂ ∧ s₂.status = .running ∧ Ended s₂ below o ∧ ∃ v L, o = .returned v ∧ Q v s₂.heap L ∧ FrameEnd s o s₂ L kc ks := by
  obtain ⟨s₂, h1, o, r⟩ := h; exact ⟨s₂, o, h1, r⟩
theorem Comes.fin (X : Stand p l e R s m args below meth c T locs cells slots) {v : Option Value} (hv : meth.sig.returnType = none → v = none) (hlk : meth.locks = false)
    (hs : ∀ fs, (∀ (f : JFrame) (acts : List Action), f.method = m → f.locked = none → f.entered = [] → (doReturn e (T.setTop f) acts v).1 = T.setFrames fs) → Steps p.tables e below S (T.setFrames fs))
    (eT : T.heap = h) (hq : Q v h locs) (hc : cells ≤ kc) (hl : slots ≤ ks) : Comes p e below (EndsAt below s Q kc ks) S := by
  obtain ⟨fs, hr, hrun, hended, hW, hsame⟩ := X.leave (v := v) hv hlk
  exact ⟨_, hs fs hr, _, hrun, hended, _, _, rfl, (show Q v T.heap locs from by rw [eT]; exact hq), ⟨_, rfl⟩, hW, hsame.mono hc hl⟩
theorem Comes.ret0 (X : Stand p l e R s m args below meth c T locs cells slots) (hx : p.tables.exec = Jvm.exec) {pc : Nat} {Ls : Array Slot} (hret : meth.sig.returnType = none) (hlk : meth.locks = false) (hd : decode c.code pc = .ok (.return_, 1))
    (eT : T.heap = h) (hq : Q none h locs) (hc : cells ≤ kc) (hl : slots ≤ ks) : Comes p e below (EndsAt below s Q kc ks) (T.setTop (mkF m pc Ls [])) :=
  Comes.fin X (fun _ => rfl) hlk (fun _ hr => X.returnOut hx hret hd hr) eT hq hc hl
theorem Comes.retN (X : Stand p l e R s m args below meth c T locs cells slots) (hx : p.tables.exec = Jvm.exec) {pc : Nat} {Ls : Array Slot} {z : Int32} {t : FieldType} {rest : List Value} (hret : meth.sig.returnType = some t) (ht : t = .boolean ∨ t = .byte ∨ t = .char ∨ t = .short) (hlk : meth.locks = false) (hd : decode c.code pc = .ok (.ireturn, 1))
    (eT : T.heap = h) (hq : Q (some (.int (nar t z))) h locs) (hc : cells ≤ kc) (hl : slots ≤ ks) : Comes p e below (EndsAt below s Q kc ks) (T.setTop (mkF m pc Ls (.int z :: rest))) :=
  Comes.fin X (fun q => by rw [hret] at q; cases q) hlk (fun _ hr => Jvm.RoadKit.retN X hx hret ht hd hr) eT hq hc hl
theorem Comes.retV (X : Stand p l e R s m args below meth c T locs cells slots) (hx : p.tables.exec = Jvm.exec) {pc : Nat} {Ls : Array Slot} {w : Value} {t : FieldType} {i : Instr} {rest : List Value} (hret : meth.sig.returnType = some t) (hn : narrow t w = w)
    (hi : (i = .ireturn ∧ (t = .int ∨ t = .boolean ∨ t = .byte ∨ t = .char ∨ t = .short) ∧ ∃ z, w = .int z) ∨ (i = .lreturn ∧ t = .long ∧ ∃ z, w = .long z) ∨ (i = .dreturn ∧ t = .double ∧ ∃ z, w = .double z) ∨ (i = .freturn ∧ t = .float ∧ ∃ z, w = .float z) ∨ (i = .areturn ∧ t.isReference = true ∧ w.isRef = true))
    (hlk : meth.locks = false) (hd : decode c.code pc = .ok (i, 1))
    (eT : T.heap = h) (hq : Q (some w) h locs) (hc : cells ≤ kc) (hl : slots ≤ ks) : Comes p e below (EndsAt below s Q kc ks) (T.setTop (mkF m pc Ls (w :: rest))) :=
  Comes.fin X (fun q => by rw [hret] at q; cases q) hlk (fun _ hr => retOut X hx hret hn hi hd hr) eT hq hc hl
/-- the same where the frame is the wide one -/
def EndsAtW (below : List Frame) (s : State) (Q : Option Value → Heap → List Loc → Prop) (kc ks : Nat) (s₂ : State) : Prop := ∃ o, s₂.status = .running ∧ Ended s₂ below o ∧ ∃ v L, o = .returned v ∧ Q v s₂.heap L ∧ ReturnedEndW s o s₂ L kc ks
theorem Comes.outW (h : Comes p e below (EndsAtW below s Q kc ks) S) : ∃ s₂ o, Steps p.tables e below S s₂ ∧ s₂.status = .running ∧ Ended s₂ below o ∧ ∃ v L, o = .returned v ∧ Q v s₂.heap L ∧ ReturnedEndW s o s₂ L kc ks := by
  obtain ⟨s₂, h1, o, r⟩ := h; exact ⟨s₂, o, h1, r⟩
theorem Comes.wretN {vm₁ : Vm} {n : Nat} (X : Stand p l e R (s.setVm vm₁) m args below meth c T locs cells slots) (hx : p.tables.exec = Jvm.exec) {pc : Nat} {Ls : Array Slot} {z : Int32} {t : FieldType} {rest : List Value} (hret : meth.sig.returnType = some t) (ht : t = .boolean ∨ t = .byte ∨ t = .char ∨ t = .short) (hlk : meth.locks = false) (hd : decode c.code pc = .ok (.ireturn, 1))
    (hS : s.Since vm₁ n) (hn : n ≤ h.size) (eT : T.heap = h) (hq : Q (some (.int (nar t z))) h locs) (hc : cells ≤ kc) (hl : slots ≤ ks) : Comes p e below (EndsAtW below s Q kc ks) (T.setTop (mkF m pc Ls (.int z :: rest))) := by
  obtain ⟨fs, hr, hrun, hended, h1, h2, h3, h4⟩ := X.leaveW hS (by rw [eT]; exact hn) (v := some (.int (nar t z))) (fun q => by rw [hret] at q; cases q) hlk
  exact ⟨_, Jvm.RoadKit.retN X hx hret ht hd hr, _, hrun, hended, _, _, rfl, (show Q _ T.heap locs from by rw [eT]; exact hq), h1, h2, h3, h4.mono hc hl⟩
theorem narrow_ref {t : FieldType} {w : Value} (h : w.isRef = true) : narrow t w = w := by rcases ref_cases h with rfl | ⟨y, rfl⟩ <;> cases t <;> rfl
theorem lremM {g : JFrame} {target : State} (X : Stand p l e R s m args below meth c T locs cells slots) (hx : p.tables.exec = Jvm.exec) (hg : g.method = m) {x y : Int64} {rest : List Value} (hd : decode c.code g.pc = .ok (.lrem, 1)) (hs : g.stack = .long y :: .long x :: rest) (hy : ¬ y = 0)
    (hr : Steps p.tables e below (T.setTop { g with pc := g.pc + 1, stack := .long (x % y) :: rest }) target) : Steps p.tables e below (T.setTop g) target := by
  have q : x - x / y * y = x % y := lrem_mod x y
  exact XT.lrem X.here hx hg hd hs hy (by rw [q]; exact hr)
theorem own_dup2 {g : JFrame} {target : State} (X : Stand p l e R s m args below meth c T locs cells slots) (hx : p.tables.exec = Jvm.exec) (hg : g.method = m) {x y : Value} {rest : List Value} (hd : decode c.code g.pc = .ok (.dup2, 1)) (hs : g.stack = x :: y :: rest) (hcx : x.category = 1) (hcy : y.category = 1)
    (hr : Steps p.tables e below (T.setTop { g with pc := g.pc + 1, stack := x :: y :: x :: y :: rest }) target) : Steps p.tables e below (T.setTop g) target := by
  subst hg
  jvm_step X.here [X.here.top, hx, hd, hs, hcx, hcy]
  exact hr
theorem own_inb {j : Int32} {n : Nat} (h : 0 ≤ j.toInt ∧ j.toInt < (n : Int)) : ¬ (j < 0 ∨ n ≤ j.toNatClampNeg) := by
  rw [Int32.lt_iff_toInt_lt]; simp only [Int32.toNatClampNeg, Int32.reduceToInt]; omega
theorem own_lrem (x y : Int64) (d : Int) (hy : y.toInt = d) : (0 ≤ x.toInt → (x % y).toInt = x.toInt % d) ∧ (x.toInt < 0 → (x % y).toInt = -((-x.toInt) % d)) := by rw [Int64.toInt_mod, hy]; exact tr _ _
theorem own_lremV (x y : Int64) : 0 ≤ x.toInt → 0 < y.toInt → 0 ≤ (x % y).toInt ∧ (x % y).toInt < y.toInt := by
  intro h1 h2
  rw [Int64.toInt_mod, Int.tmod_eq_emod_of_nonneg h1]
  exact ⟨Int.emod_nonneg _ (by omega), Int.emod_lt_of_pos _ h2⟩
theorem own_eqi {a0 : Array Value} {Z : State} {t : Term} {k : Int32} {idx : List Nat} (h : (Jvm.Cond.eq t (Term.int k)).value a0 Z none Z idx = some true) : t.eval a0 Z none idx Z = some (.int k) := by
  obtain ⟨x, y, e1, e2, k1, k2⟩ := cmp_v (Or.inl h)
  simp only [Term.eval, Option.some.injEq] at e2
  subst e2
  obtain ⟨z, rfl⟩ := k2
  simp [Cond.value, e1, Term.eval] at h
  rw [e1, h]
theorem own_selp {a0 : Array Value} {Z : State} {y : MethodName} {n : Nat} (wi : (Jvm.Cond.instantiable y.cls n).before a0 Z = true) (wp : (Jvm.Cond.privateMethod y).before a0 Z = true) (wm : (Jvm.Cond.instanceMethod y).before a0 Z = true) (hy : y.cls ≠ "java/lang/invoke/MethodHandle" ∧ y.cls ≠ "java/lang/invoke/VarHandle") : (Jvm.Cond.selects y.cls y y).before a0 Z = true := by
  obtain ⟨c, k, h1, h2, h3, h4, -⟩ := Cond.instantiable_spec wi
  exact Jvm.Stand.selects_self_of_private h1 h2 (by simp only [Bool.or_eq_false_iff] at h4; exact h4.1) (Cond.privateMethod_at wp) wm hy
theorem own_eqr {a0 : Array Value} {Z : State} {t u : Term} {y : Value} {idx : List Nat} (h : (Jvm.Cond.eq t u).value a0 Z none Z idx = some true) (hu : u.eval a0 Z none idx Z = some y) (hy : y.isRef = true) : t.eval a0 Z none idx Z = some y := by
  obtain ⟨x, y', e1, e2, k1, k2⟩ := cmp_v (Or.inl h)
  cases hu.symm.trans e2
  have hx : x.isRef = true := by
    rcases ref_cases hy with rfl | ⟨z, rfl⟩ <;> cases x <;> simp_all [Kin, Value.isRef]
  rw [e1, gotT (eq_R e1 hu hx hy) h]
theorem own_len {a0 : Array Value} {Z : State} {t : Term} {a : Addr} {cl : Cell} {ty : FieldType} {k : Int32} (ht : t.eval a0 Z none [] Z = some (.ref a)) (A : Arr Z Z.heap a cl ty) (h : (Jvm.Cond.eq (Term.length t) (Term.int k)).value a0 Z none Z [] = some true) : cl.slots.size < 2 ^ 31 ∧ cl.slots.size.toInt32 = k := by
  have e := own_eqi h
  have e2 := A.fin (Vm.Alike.refl _)
  simp [Term.eval, ht, e2] at e
  exact ⟨by omega, e.2⟩
theorem own_elem {a0 : Array Value} {Z : State} {t u : Term} {a : Addr} {cl : Cell} {j : Int32} {y : Value} (ht : t.eval a0 Z none [] Z = some (.ref a)) (hc : Z.heap[a]? = some cl) (h : (Jvm.Cond.eq (Term.elem t (Term.int j)) u).value a0 Z none Z [] = some true) (hu : u.eval a0 Z none [] Z = some y) (hy : y.isRef = true) : cl.slots[j.toNatClampNeg]? = some y := (elem_in (own_eqr h hu hy) ht (by rfl) hc).2
theorem own_fldi {a0 : Array Value} {Z : State} {t : Term} {k : Int32} {a : Addr} {C n d : String} (ht : t.eval a0 Z none [] Z = some (.ref a)) (h : (Jvm.Cond.eq (Term.field t C n d) (Term.int k)).value a0 Z none Z [] = some true) : Fld Z Z.heap a C n d (.int k) := Fld.start ((fld_at ht).symm.trans (own_eqi h))
end Own
theorem d6_0 : decode jdk_68_method_2_code 0 = .ok (.aload_n 0, 1) := by decide +kernel
theorem d6_1 : decode jdk_68_method_2_code 1 = .ok (.invokespecial 3, 3) := by decide +kernel
theorem d6_4 : decode jdk_68_method_2_code 4 = .ok (.getstatic 18, 3) := by decide +kernel
theorem d6_7 : decode jdk_68_method_2_code 7 = .ok (.ifCond .eq 18, 3) := by decide +kernel
theorem d6_10 : decode jdk_68_method_2_code 10 = .ok (.aload_n 0, 1) := by decide +kernel
theorem d6_11 : decode jdk_68_method_2_code 11 = .ok (.iload_n 1, 1) := by decide +kernel
theorem d6_12 : decode jdk_68_method_2_code 12 = .ok (.newarray .byte, 2) := by decide +kernel
theorem d6_14 : decode jdk_68_method_2_code 14 = .ok (.putfield 15, 3) := by decide +kernel
theorem d6_17 : decode jdk_68_method_2_code 17 = .ok (.aload_n 0, 1) := by decide +kernel
theorem d6_18 : decode jdk_68_method_2_code 18 = .ok (.iconst 0, 1) := by decide +kernel
theorem d6_19 : decode jdk_68_method_2_code 19 = .ok (.putfield 22, 3) := by decide +kernel
theorem d6_22 : decode jdk_68_method_2_code 22 = .ok (.goto 16, 3) := by decide +kernel
theorem d6_38 : decode jdk_68_method_2_code 38 = .ok (.return_, 1) := by decide +kernel
theorem d5_0 : decode jdk_67_method_1_code 0 = .ok (.aload_n 0, 1) := by decide +kernel
theorem d5_1 : decode jdk_67_method_1_code 1 = .ok (.bipush 16, 2) := by decide +kernel
theorem d5_3 : decode jdk_67_method_1_code 3 = .ok (.invokespecial 1, 3) := by decide +kernel
theorem d5_6 : decode jdk_67_method_1_code 6 = .ok (.return_, 1) := by decide +kernel
theorem d10_0 : decode jdk_42_method_152_code 0 = .ok (.getstatic 38, 3) := by decide +kernel
theorem d10_3 : decode jdk_42_method_152_code 3 = .ok (.ifCond .eq 10, 3) := by decide +kernel
theorem d10_6 : decode jdk_42_method_152_code 6 = .ok (.aload_n 0, 1) := by decide +kernel
theorem d10_7 : decode jdk_42_method_152_code 7 = .ok (.getfield 15, 3) := by decide +kernel
theorem d10_10 : decode jdk_42_method_152_code 10 = .ok (.goto 4, 3) := by decide +kernel
theorem d10_14 : decode jdk_42_method_152_code 14 = .ok (.ireturn, 1) := by decide +kernel
theorem d9_0 : decode jdk_42_method_54_code 0 = .ok (.aload_n 0, 1) := by decide +kernel
theorem d9_1 : decode jdk_42_method_54_code 1 = .ok (.getfield 9, 3) := by decide +kernel
theorem d9_4 : decode jdk_42_method_54_code 4 = .ok (.arraylength, 1) := by decide +kernel
theorem d9_5 : decode jdk_42_method_54_code 5 = .ok (.aload_n 0, 1) := by decide +kernel
theorem d9_6 : decode jdk_42_method_54_code 6 = .ok (.invokevirtual 335, 3) := by decide +kernel
theorem d9_9 : decode jdk_42_method_54_code 9 = .ok (.ishr, 1) := by decide +kernel
theorem d9_10 : decode jdk_42_method_54_code 10 = .ok (.ireturn, 1) := by decide +kernel
theorem d11_0 : decode jdk_68_method_9_code 0 = .ok (.aload_n 0, 1) := by decide +kernel
theorem d11_1 : decode jdk_68_method_9_code 1 = .ok (.getfield 15, 3) := by decide +kernel
theorem d11_4 : decode jdk_68_method_9_code 4 = .ok (.arraylength, 1) := by decide +kernel
theorem d11_5 : decode jdk_68_method_9_code 5 = .ok (.aload_n 0, 1) := by decide +kernel
theorem d11_6 : decode jdk_68_method_9_code 6 = .ok (.getfield 22, 3) := by decide +kernel
theorem d11_9 : decode jdk_68_method_9_code 9 = .ok (.ishr, 1) := by decide +kernel
theorem d11_10 : decode jdk_68_method_9_code 10 = .ok (.istore_n 2, 1) := by decide +kernel
theorem d11_11 : decode jdk_68_method_9_code 11 = .ok (.iload_n 1, 1) := by decide +kernel
theorem d11_12 : decode jdk_68_method_9_code 12 = .ok (.iload_n 2, 1) := by decide +kernel
theorem d11_13 : decode jdk_68_method_9_code 13 = .ok (.isub, 1) := by decide +kernel
theorem d11_14 : decode jdk_68_method_9_code 14 = .ok (.ifCond .le 24, 3) := by decide +kernel
theorem d11_38 : decode jdk_68_method_9_code 38 = .ok (.return_, 1) := by decide +kernel
theorem d13_0 : decode jdk_68_method_71_code 0 = .ok (.getstatic 18, 3) := by decide +kernel
theorem d13_3 : decode jdk_68_method_71_code 3 = .ok (.ifCond .eq 18, 3) := by decide +kernel
theorem d13_6 : decode jdk_68_method_71_code 6 = .ok (.aload_n 0, 1) := by decide +kernel
theorem d13_7 : decode jdk_68_method_71_code 7 = .ok (.getfield 22, 3) := by decide +kernel
theorem d13_10 : decode jdk_68_method_71_code 10 = .ok (.aload_n 1, 1) := by decide +kernel
theorem d13_11 : decode jdk_68_method_71_code 11 = .ok (.invokevirtual 40, 3) := by decide +kernel
theorem d13_14 : decode jdk_68_method_71_code 14 = .ok (.if_icmp .eq 7, 3) := by decide +kernel
theorem d13_21 : decode jdk_68_method_71_code 21 = .ok (.return_, 1) := by decide +kernel
theorem d14_0 : decode jdk_42_method_147_code 0 = .ok (.aload_n 0, 1) := by decide +kernel
theorem d14_1 : decode jdk_42_method_147_code 1 = .ok (.invokevirtual 335, 3) := by decide +kernel
theorem d14_4 : decode jdk_42_method_147_code 4 = .ok (.iload_n 3, 1) := by decide +kernel
theorem d14_5 : decode jdk_42_method_147_code 5 = .ok (.if_icmp .ne 23, 3) := by decide +kernel
theorem d14_8 : decode jdk_42_method_147_code 8 = .ok (.aload_n 0, 1) := by decide +kernel
theorem d14_9 : decode jdk_42_method_147_code 9 = .ok (.getfield 9, 3) := by decide +kernel
theorem d14_12 : decode jdk_42_method_147_code 12 = .ok (.iconst 0, 1) := by decide +kernel
theorem d14_13 : decode jdk_42_method_147_code 13 = .ok (.aload_n 1, 1) := by decide +kernel
theorem d14_14 : decode jdk_42_method_147_code 14 = .ok (.iload_n 2, 1) := by decide +kernel
theorem d14_15 : decode jdk_42_method_147_code 15 = .ok (.iload_n 3, 1) := by decide +kernel
theorem d14_16 : decode jdk_42_method_147_code 16 = .ok (.ishl, 1) := by decide +kernel
theorem d14_17 : decode jdk_42_method_147_code 17 = .ok (.aload_n 0, 1) := by decide +kernel
theorem d14_18 : decode jdk_42_method_147_code 18 = .ok (.getfield 9, 3) := by decide +kernel
theorem d14_21 : decode jdk_42_method_147_code 21 = .ok (.arraylength, 1) := by decide +kernel
theorem d14_22 : decode jdk_42_method_147_code 22 = .ok (.invokestatic 212, 3) := by decide +kernel
theorem d14_25 : decode jdk_42_method_147_code 25 = .ok (.goto 18, 3) := by decide +kernel
theorem d14_43 : decode jdk_42_method_147_code 43 = .ok (.return_, 1) := by decide +kernel
theorem d12_0 : decode jdk_68_method_73_code 0 = .ok (.aload_n 0, 1) := by decide +kernel
theorem d12_1 : decode jdk_68_method_73_code 1 = .ok (.aload_n 2, 1) := by decide +kernel
theorem d12_2 : decode jdk_68_method_73_code 2 = .ok (.invokevirtual 397, 3) := by decide +kernel
theorem d12_5 : decode jdk_68_method_73_code 5 = .ok (.aload_n 2, 1) := by decide +kernel
theorem d12_6 : decode jdk_68_method_73_code 6 = .ok (.aload_n 0, 1) := by decide +kernel
theorem d12_7 : decode jdk_68_method_73_code 7 = .ok (.getfield 15, 3) := by decide +kernel
theorem d12_10 : decode jdk_68_method_73_code 10 = .ok (.iload_n 1, 1) := by decide +kernel
theorem d12_11 : decode jdk_68_method_73_code 11 = .ok (.aload_n 0, 1) := by decide +kernel
theorem d12_12 : decode jdk_68_method_73_code 12 = .ok (.getfield 22, 3) := by decide +kernel
theorem d12_15 : decode jdk_68_method_73_code 15 = .ok (.invokevirtual 399, 3) := by decide +kernel
theorem d12_18 : decode jdk_68_method_73_code 18 = .ok (.return_, 1) := by decide +kernel
theorem d8_0 : decode jdk_68_method_22_code 0 = .ok (.aload_n 1, 1) := by decide +kernel
theorem d8_1 : decode jdk_68_method_22_code 1 = .ok (.ifnonnull 8, 3) := by decide +kernel
theorem d8_9 : decode jdk_68_method_22_code 9 = .ok (.aload_n 1, 1) := by decide +kernel
theorem d8_10 : decode jdk_68_method_22_code 10 = .ok (.invokevirtual 32, 3) := by decide +kernel
theorem d8_13 : decode jdk_68_method_22_code 13 = .ok (.istore_n 2, 1) := by decide +kernel
theorem d8_14 : decode jdk_68_method_22_code 14 = .ok (.aload_n 0, 1) := by decide +kernel
theorem d8_15 : decode jdk_68_method_22_code 15 = .ok (.aload_n 0, 1) := by decide +kernel
theorem d8_16 : decode jdk_68_method_22_code 16 = .ok (.getfield 79, 3) := by decide +kernel
theorem d8_19 : decode jdk_68_method_22_code 19 = .ok (.iload_n 2, 1) := by decide +kernel
theorem d8_20 : decode jdk_68_method_22_code 20 = .ok (.iadd, 1) := by decide +kernel
theorem d8_21 : decode jdk_68_method_22_code 21 = .ok (.invokevirtual 100, 3) := by decide +kernel
theorem d8_24 : decode jdk_68_method_22_code 24 = .ok (.aload_n 0, 1) := by decide +kernel
theorem d8_25 : decode jdk_68_method_22_code 25 = .ok (.aload_n 0, 1) := by decide +kernel
theorem d8_26 : decode jdk_68_method_22_code 26 = .ok (.getfield 79, 3) := by decide +kernel
theorem d8_29 : decode jdk_68_method_22_code 29 = .ok (.aload_n 1, 1) := by decide +kernel
theorem d8_30 : decode jdk_68_method_22_code 30 = .ok (.invokevirtual 208, 3) := by decide +kernel
theorem d8_33 : decode jdk_68_method_22_code 33 = .ok (.aload_n 0, 1) := by decide +kernel
theorem d8_34 : decode jdk_68_method_22_code 34 = .ok (.dup, 1) := by decide +kernel
theorem d8_35 : decode jdk_68_method_22_code 35 = .ok (.getfield 79, 3) := by decide +kernel
theorem d8_38 : decode jdk_68_method_22_code 38 = .ok (.iload_n 2, 1) := by decide +kernel
theorem d8_39 : decode jdk_68_method_22_code 39 = .ok (.iadd, 1) := by decide +kernel
theorem d8_40 : decode jdk_68_method_22_code 40 = .ok (.putfield 79, 3) := by decide +kernel
theorem d8_43 : decode jdk_68_method_22_code 43 = .ok (.aload_n 0, 1) := by decide +kernel
theorem d8_44 : decode jdk_68_method_22_code 44 = .ok (.areturn, 1) := by decide +kernel
theorem d7_0 : decode jdk_67_method_7_code 0 = .ok (.aload_n 0, 1) := by decide +kernel
theorem d7_1 : decode jdk_67_method_7_code 1 = .ok (.aload_n 1, 1) := by decide +kernel
theorem d7_2 : decode jdk_67_method_7_code 2 = .ok (.invokespecial 29, 3) := by decide +kernel
theorem d7_5 : decode jdk_67_method_7_code 5 = .ok (.pop, 1) := by decide +kernel
theorem d7_6 : decode jdk_67_method_7_code 6 = .ok (.aload_n 0, 1) := by decide +kernel
theorem d7_7 : decode jdk_67_method_7_code 7 = .ok (.areturn, 1) := by decide +kernel
theorem d18_0 : decode jdk_68_method_64_code 0 = .ok (.aload_n 0, 1) := by decide +kernel
theorem d18_1 : decode jdk_68_method_64_code 1 = .ok (.getfield 15, 3) := by decide +kernel
theorem d18_4 : decode jdk_68_method_64_code 4 = .ok (.areturn, 1) := by decide +kernel
theorem d20_0 : decode jdk_68_method_6_code 0 = .ok (.aload_n 0, 1) := by decide +kernel
theorem d20_1 : decode jdk_68_method_6_code 1 = .ok (.getfield 79, 3) := by decide +kernel
theorem d20_4 : decode jdk_68_method_6_code 4 = .ok (.ireturn, 1) := by decide +kernel
theorem d19_0 : decode jdk_67_method_93_code 0 = .ok (.aload_n 0, 1) := by decide +kernel
theorem d19_1 : decode jdk_67_method_93_code 1 = .ok (.invokespecial 343, 3) := by decide +kernel
theorem d19_4 : decode jdk_67_method_93_code 4 = .ok (.ireturn, 1) := by decide +kernel
theorem d21_0 : decode jdk_68_method_68_code 0 = .ok (.getstatic 18, 3) := by decide +kernel
theorem d21_3 : decode jdk_68_method_68_code 3 = .ok (.ifCond .eq 14, 3) := by decide +kernel
theorem d21_6 : decode jdk_68_method_68_code 6 = .ok (.aload_n 0, 1) := by decide +kernel
theorem d21_7 : decode jdk_68_method_68_code 7 = .ok (.getfield 22, 3) := by decide +kernel
theorem d21_10 : decode jdk_68_method_68_code 10 = .ok (.ifCond .ne 7, 3) := by decide +kernel
theorem d21_13 : decode jdk_68_method_68_code 13 = .ok (.iconst 1, 1) := by decide +kernel
theorem d21_14 : decode jdk_68_method_68_code 14 = .ok (.goto 4, 3) := by decide +kernel
theorem d21_18 : decode jdk_68_method_68_code 18 = .ok (.ireturn, 1) := by decide +kernel
theorem d24_0 : decode jdk_65_method_131_code 0 = .ok (.iload_n 1, 1) := by decide +kernel
theorem d24_1 : decode jdk_65_method_131_code 1 = .ok (.iload_n 0, 1) := by decide +kernel
theorem d24_2 : decode jdk_65_method_131_code 2 = .ok (.if_icmp .ge 35, 3) := by decide +kernel
theorem d24_37 : decode jdk_65_method_131_code 37 = .ok (.return_, 1) := by decide +kernel
theorem d25_0 : decode jdk_29_method_69_code 0 = .ok (.iload_n 0, 1) := by decide +kernel
theorem d25_1 : decode jdk_29_method_69_code 1 = .ok (.iload_n 1, 1) := by decide +kernel
theorem d25_2 : decode jdk_29_method_69_code 2 = .ok (.if_icmp .gt 7, 3) := by decide +kernel
theorem d25_9 : decode jdk_29_method_69_code 9 = .ok (.iload_n 1, 1) := by decide +kernel
theorem d25_10 : decode jdk_29_method_69_code 10 = .ok (.ireturn, 1) := by decide +kernel
theorem d23_0 : decode jdk_65_method_133_code 0 = .ok (.iload_n 1, 1) := by decide +kernel
theorem d23_1 : decode jdk_65_method_133_code 1 = .ok (.iload_n 2, 1) := by decide +kernel
theorem d23_2 : decode jdk_65_method_133_code 2 = .ok (.invokestatic 343, 3) := by decide +kernel
theorem d23_5 : decode jdk_65_method_133_code 5 = .ok (.iload_n 2, 1) := by decide +kernel
theorem d23_6 : decode jdk_65_method_133_code 6 = .ok (.iload_n 1, 1) := by decide +kernel
theorem d23_7 : decode jdk_65_method_133_code 7 = .ok (.isub, 1) := by decide +kernel
theorem d23_8 : decode jdk_65_method_133_code 8 = .ok (.istore_n 3, 1) := by decide +kernel
theorem d23_9 : decode jdk_65_method_133_code 9 = .ok (.iload_n 3, 1) := by decide +kernel
theorem d23_10 : decode jdk_65_method_133_code 10 = .ok (.newarray .byte, 2) := by decide +kernel
theorem d23_12 : decode jdk_65_method_133_code 12 = .ok (.astore 4, 2) := by decide +kernel
theorem d23_14 : decode jdk_65_method_133_code 14 = .ok (.aload_n 0, 1) := by decide +kernel
theorem d23_15 : decode jdk_65_method_133_code 15 = .ok (.iload_n 1, 1) := by decide +kernel
theorem d23_16 : decode jdk_65_method_133_code 16 = .ok (.aload 4, 2) := by decide +kernel
theorem d23_18 : decode jdk_65_method_133_code 18 = .ok (.iconst 0, 1) := by decide +kernel
theorem d23_19 : decode jdk_65_method_133_code 19 = .ok (.aload_n 0, 1) := by decide +kernel
theorem d23_20 : decode jdk_65_method_133_code 20 = .ok (.arraylength, 1) := by decide +kernel
theorem d23_21 : decode jdk_65_method_133_code 21 = .ok (.iload_n 1, 1) := by decide +kernel
theorem d23_22 : decode jdk_65_method_133_code 22 = .ok (.isub, 1) := by decide +kernel
theorem d23_23 : decode jdk_65_method_133_code 23 = .ok (.iload_n 3, 1) := by decide +kernel
theorem d23_24 : decode jdk_65_method_133_code 24 = .ok (.invokestatic 304, 3) := by decide +kernel
theorem d23_27 : decode jdk_65_method_133_code 27 = .ok (.invokestatic 150, 3) := by decide +kernel
theorem d23_30 : decode jdk_65_method_133_code 30 = .ok (.aload 4, 2) := by decide +kernel
theorem d23_32 : decode jdk_65_method_133_code 32 = .ok (.areturn, 1) := by decide +kernel
theorem d22_0 : decode jdk_65_method_132_code 0 = .ok (.iload_n 1, 1) := by decide +kernel
theorem d22_1 : decode jdk_65_method_132_code 1 = .ok (.ifCond .ne 9, 3) := by decide +kernel
theorem d22_4 : decode jdk_65_method_132_code 4 = .ok (.iload_n 2, 1) := by decide +kernel
theorem d22_5 : decode jdk_65_method_132_code 5 = .ok (.aload_n 0, 1) := by decide +kernel
theorem d22_6 : decode jdk_65_method_132_code 6 = .ok (.arraylength, 1) := by decide +kernel
theorem d22_7 : decode jdk_65_method_132_code 7 = .ok (.if_icmp .eq 10, 3) := by decide +kernel
theorem d22_10 : decode jdk_65_method_132_code 10 = .ok (.aload_n 0, 1) := by decide +kernel
theorem d22_11 : decode jdk_65_method_132_code 11 = .ok (.iload_n 1, 1) := by decide +kernel
theorem d22_12 : decode jdk_65_method_132_code 12 = .ok (.iload_n 2, 1) := by decide +kernel
theorem d22_13 : decode jdk_65_method_132_code 13 = .ok (.invokestatic 339, 3) := by decide +kernel
theorem d22_16 : decode jdk_65_method_132_code 16 = .ok (.areturn, 1) := by decide +kernel
theorem d22_17 : decode jdk_65_method_132_code 17 = .ok (.aload_n 0, 1) := by decide +kernel
theorem d22_18 : decode jdk_65_method_132_code 18 = .ok (.invokevirtual 310, 3) := by decide +kernel
theorem d22_21 : decode jdk_65_method_132_code 21 = .ok (.checkcast 311, 3) := by decide +kernel
theorem d22_24 : decode jdk_65_method_132_code 24 = .ok (.areturn, 1) := by decide +kernel
theorem d17_0 : decode jdk_42_method_150_code 0 = .ok (.aload_n 0, 1) := by decide +kernel
theorem d17_1 : decode jdk_42_method_150_code 1 = .ok (.invokespecial 1, 3) := by decide +kernel
theorem d17_4 : decode jdk_42_method_150_code 4 = .ok (.aload_n 1, 1) := by decide +kernel
theorem d17_5 : decode jdk_42_method_150_code 5 = .ok (.invokevirtual 552, 3) := by decide +kernel
theorem d17_8 : decode jdk_42_method_150_code 8 = .ok (.astore_n 3, 1) := by decide +kernel
theorem d17_9 : decode jdk_42_method_150_code 9 = .ok (.aload_n 1, 1) := by decide +kernel
theorem d17_10 : decode jdk_42_method_150_code 10 = .ok (.invokevirtual 549, 3) := by decide +kernel
theorem d17_13 : decode jdk_42_method_150_code 13 = .ok (.istore 4, 2) := by decide +kernel
theorem d17_15 : decode jdk_42_method_150_code 15 = .ok (.aload_n 1, 1) := by decide +kernel
theorem d17_16 : decode jdk_42_method_150_code 16 = .ok (.invokevirtual 1047, 3) := by decide +kernel
theorem d17_19 : decode jdk_42_method_150_code 19 = .ok (.ifCond .eq 22, 3) := by decide +kernel
theorem d17_22 : decode jdk_42_method_150_code 22 = .ok (.aload_n 0, 1) := by decide +kernel
theorem d17_23 : decode jdk_42_method_150_code 23 = .ok (.iconst 0, 1) := by decide +kernel
theorem d17_24 : decode jdk_42_method_150_code 24 = .ok (.putfield 15, 3) := by decide +kernel
theorem d17_27 : decode jdk_42_method_150_code 27 = .ok (.aload_n 0, 1) := by decide +kernel
theorem d17_28 : decode jdk_42_method_150_code 28 = .ok (.aload_n 3, 1) := by decide +kernel
theorem d17_29 : decode jdk_42_method_150_code 29 = .ok (.iconst 0, 1) := by decide +kernel
theorem d17_30 : decode jdk_42_method_150_code 30 = .ok (.iload 4, 2) := by decide +kernel
theorem d17_32 : decode jdk_42_method_150_code 32 = .ok (.invokestatic 54, 3) := by decide +kernel
theorem d17_35 : decode jdk_42_method_150_code 35 = .ok (.putfield 9, 3) := by decide +kernel
theorem d17_38 : decode jdk_42_method_150_code 38 = .ok (.goto 59, 3) := by decide +kernel
theorem d17_97 : decode jdk_42_method_150_code 97 = .ok (.return_, 1) := by decide +kernel
theorem d16_0 : decode jdk_42_method_53_code 0 = .ok (.aload_n 0, 1) := by decide +kernel
theorem d16_1 : decode jdk_42_method_53_code 1 = .ok (.aload_n 1, 1) := by decide +kernel
theorem d16_2 : decode jdk_42_method_53_code 2 = .ok (.aconst_null, 1) := by decide +kernel
theorem d16_3 : decode jdk_42_method_53_code 3 = .ok (.invokespecial 489, 3) := by decide +kernel
theorem d16_6 : decode jdk_42_method_53_code 6 = .ok (.return_, 1) := by decide +kernel
theorem d15_0 : decode jdk_67_method_42_code 0 = .ok (.new 18, 3) := by decide +kernel
theorem d15_3 : decode jdk_67_method_42_code 3 = .ok (.dup, 1) := by decide +kernel
theorem d15_4 : decode jdk_67_method_42_code 4 = .ok (.aload_n 0, 1) := by decide +kernel
theorem d15_5 : decode jdk_67_method_42_code 5 = .ok (.invokespecial 137, 3) := by decide +kernel
theorem d15_8 : decode jdk_67_method_42_code 8 = .ok (.areturn, 1) := by decide +kernel
theorem d3_0 : decode jdk_31_method_11_code 0 = .ok (.aload_n 0, 1) := by decide +kernel
theorem d3_1 : decode jdk_31_method_11_code 1 = .ok (.ifnonnull 12, 3) := by decide +kernel
theorem d3_13 : decode jdk_31_method_11_code 13 = .ok (.aload_n 0, 1) := by decide +kernel
theorem d3_14 : decode jdk_31_method_11_code 14 = .ok (.areturn, 1) := by decide +kernel
theorem d28_0 : decode jdk_117_method_8_code 0 = .ok (.dload_n 0, 1) := by decide +kernel
theorem d28_1 : decode jdk_117_method_8_code 1 = .ok (.invokestatic 38, 3) := by decide +kernel
theorem d28_4 : decode jdk_117_method_8_code 4 = .ok (.ldc2_w 111, 3) := by decide +kernel
theorem d28_7 : decode jdk_117_method_8_code 7 = .ok (.dcmp .g, 1) := by decide +kernel
theorem d28_8 : decode jdk_117_method_8_code 8 = .ok (.ifCond .gt 7, 3) := by decide +kernel
theorem d28_11 : decode jdk_117_method_8_code 11 = .ok (.iconst 1, 1) := by decide +kernel
theorem d28_12 : decode jdk_117_method_8_code 12 = .ok (.goto 4, 3) := by decide +kernel
theorem d28_16 : decode jdk_117_method_8_code 16 = .ok (.ireturn, 1) := by decide +kernel
theorem d26_0 : decode prog_86_method_18_code 0 = .ok (.iconst 0, 1) := by decide +kernel
theorem d26_1 : decode prog_86_method_18_code 1 = .ok (.istore_n 3, 1) := by decide +kernel
theorem d26_2 : decode prog_86_method_18_code 2 = .ok (.iload_n 3, 1) := by decide +kernel
theorem d26_3 : decode prog_86_method_18_code 3 = .ok (.aload_n 0, 1) := by decide +kernel
theorem d26_4 : decode prog_86_method_18_code 4 = .ok (.arraylength, 1) := by decide +kernel
theorem d26_5 : decode prog_86_method_18_code 5 = .ok (.if_icmp .ge 28, 3) := by decide +kernel
theorem d26_8 : decode prog_86_method_18_code 8 = .ok (.aload_n 0, 1) := by decide +kernel
theorem d26_9 : decode prog_86_method_18_code 9 = .ok (.iload_n 3, 1) := by decide +kernel
theorem d26_10 : decode prog_86_method_18_code 10 = .ok (.daload, 1) := by decide +kernel
theorem d26_11 : decode prog_86_method_18_code 11 = .ok (.invokestatic 238, 3) := by decide +kernel
theorem d26_14 : decode prog_86_method_18_code 14 = .ok (.ifCond .eq 11, 3) := by decide +kernel
theorem d26_17 : decode prog_86_method_18_code 17 = .ok (.aload_n 0, 1) := by decide +kernel
theorem d26_18 : decode prog_86_method_18_code 18 = .ok (.iload_n 3, 1) := by decide +kernel
theorem d26_19 : decode prog_86_method_18_code 19 = .ok (.daload, 1) := by decide +kernel
theorem d26_20 : decode prog_86_method_18_code 20 = .ok (.dload_n 1, 1) := by decide +kernel
theorem d26_21 : decode prog_86_method_18_code 21 = .ok (.dcmp .g, 1) := by decide +kernel
theorem d26_22 : decode prog_86_method_18_code 22 = .ok (.ifCond .ge 5, 3) := by decide +kernel
theorem d26_27 : decode prog_86_method_18_code 27 = .ok (.iinc 3 1, 3) := by decide +kernel
theorem d26_30 : decode prog_86_method_18_code 30 = .ok (.goto (-28), 3) := by decide +kernel
theorem d26_33 : decode prog_86_method_18_code 33 = .ok (.iconst (-1), 1) := by decide +kernel
theorem d26_34 : decode prog_86_method_18_code 34 = .ok (.ireturn, 1) := by decide +kernel
theorem d4_0 : decode prog_86_method_17_code 0 = .ok (.aload_n 0, 1) := by decide +kernel
theorem d4_1 : decode prog_86_method_17_code 1 = .ok (.new 54, 3) := by decide +kernel
theorem d4_4 : decode prog_86_method_17_code 4 = .ok (.dup, 1) := by decide +kernel
theorem d4_5 : decode prog_86_method_17_code 5 = .ok (.invokespecial 56, 3) := by decide +kernel
theorem d4_8 : decode prog_86_method_17_code 8 = .ok (.aload_n 1, 1) := by decide +kernel
theorem d4_9 : decode prog_86_method_17_code 9 = .ok (.invokevirtual 63, 3) := by decide +kernel
theorem d4_12 : decode prog_86_method_17_code 12 = .ok (.ldc 230, 2) := by decide +kernel
theorem d4_14 : decode prog_86_method_17_code 14 = .ok (.invokevirtual 63, 3) := by decide +kernel
theorem d4_17 : decode prog_86_method_17_code 17 = .ok (.invokevirtual 68, 3) := by decide +kernel
theorem d4_20 : decode prog_86_method_17_code 20 = .ok (.invokestatic 9, 3) := by decide +kernel
theorem d4_23 : decode prog_86_method_17_code 23 = .ok (.pop, 1) := by decide +kernel
theorem d4_24 : decode prog_86_method_17_code 24 = .ok (.aload_n 0, 1) := by decide +kernel
theorem d4_25 : decode prog_86_method_17_code 25 = .ok (.arraylength, 1) := by decide +kernel
theorem d4_26 : decode prog_86_method_17_code 26 = .ok (.iload_n 2, 1) := by decide +kernel
theorem d4_27 : decode prog_86_method_17_code 27 = .ok (.if_icmp .eq 44, 3) := by decide +kernel
theorem d4_71 : decode prog_86_method_17_code 71 = .ok (.aload_n 0, 1) := by decide +kernel
theorem d4_72 : decode prog_86_method_17_code 72 = .ok (.dload_n 3, 1) := by decide +kernel
theorem d4_73 : decode prog_86_method_17_code 73 = .ok (.invokestatic 157, 3) := by decide +kernel
theorem d4_76 : decode prog_86_method_17_code 76 = .ok (.istore 5, 2) := by decide +kernel
theorem d4_78 : decode prog_86_method_17_code 78 = .ok (.iload 5, 2) := by decide +kernel
theorem d4_80 : decode prog_86_method_17_code 80 = .ok (.ifCond .lt 47, 3) := by decide +kernel
theorem d4_127 : decode prog_86_method_17_code 127 = .ok (.aload_n 0, 1) := by decide +kernel
theorem d4_128 : decode prog_86_method_17_code 128 = .ok (.invokevirtual 165, 3) := by decide +kernel
theorem d4_131 : decode prog_86_method_17_code 131 = .ok (.checkcast 120, 3) := by decide +kernel
theorem d4_134 : decode prog_86_method_17_code 134 = .ok (.areturn, 1) := by decide +kernel
theorem d1_0 : decode prog_74_method_1_code 0 = .ok (.aload_n 0, 1) := by decide +kernel
theorem d1_1 : decode prog_74_method_1_code 1 = .ok (.invokespecial 1, 3) := by decide +kernel
theorem d1_4 : decode prog_74_method_1_code 4 = .ok (.aload_n 1, 1) := by decide +kernel
theorem d1_5 : decode prog_74_method_1_code 5 = .ok (.ldc 7, 2) := by decide +kernel
theorem d1_7 : decode prog_74_method_1_code 7 = .ok (.invokestatic 9, 3) := by decide +kernel
theorem d1_10 : decode prog_74_method_1_code 10 = .ok (.checkcast 15, 3) := by decide +kernel
theorem d1_13 : decode prog_74_method_1_code 13 = .ok (.arraylength, 1) := by decide +kernel
theorem d1_14 : decode prog_74_method_1_code 14 = .ok (.istore_n 3, 1) := by decide +kernel
theorem d1_15 : decode prog_74_method_1_code 15 = .ok (.aload_n 0, 1) := by decide +kernel
theorem d1_16 : decode prog_74_method_1_code 16 = .ok (.aload_n 1, 1) := by decide +kernel
theorem d1_17 : decode prog_74_method_1_code 17 = .ok (.ldc 17, 2) := by decide +kernel
theorem d1_19 : decode prog_74_method_1_code 19 = .ok (.iload_n 3, 1) := by decide +kernel
theorem d1_20 : decode prog_74_method_1_code 20 = .ok (.dconst 0, 1) := by decide +kernel
theorem d1_21 : decode prog_74_method_1_code 21 = .ok (.invokestatic 19, 3) := by decide +kernel
theorem d1_24 : decode prog_74_method_1_code 24 = .ok (.putfield 25, 3) := by decide +kernel
theorem d1_27 : decode prog_74_method_1_code 27 = .ok (.aload_n 0, 1) := by decide +kernel
theorem d1_28 : decode prog_74_method_1_code 28 = .ok (.aload_n 2, 1) := by decide +kernel
theorem d1_29 : decode prog_74_method_1_code 29 = .ok (.ldc 29, 2) := by decide +kernel
theorem d1_31 : decode prog_74_method_1_code 31 = .ok (.iload_n 3, 1) := by decide +kernel
theorem d1_32 : decode prog_74_method_1_code 32 = .ok (.dconst 0, 1) := by decide +kernel
theorem d1_33 : decode prog_74_method_1_code 33 = .ok (.invokestatic 19, 3) := by decide +kernel
theorem d1_36 : decode prog_74_method_1_code 36 = .ok (.putfield 31, 3) := by decide +kernel
theorem d1_39 : decode prog_74_method_1_code 39 = .ok (.aload_n 0, 1) := by decide +kernel
theorem d1_40 : decode prog_74_method_1_code 40 = .ok (.aconst_null, 1) := by decide +kernel
theorem d1_41 : decode prog_74_method_1_code 41 = .ok (.putfield 33, 3) := by decide +kernel
theorem d1_44 : decode prog_74_method_1_code 44 = .ok (.aload_n 0, 1) := by decide +kernel
theorem d1_45 : decode prog_74_method_1_code 45 = .ok (.aconst_null, 1) := by decide +kernel
theorem d1_46 : decode prog_74_method_1_code 46 = .ok (.putfield 36, 3) := by decide +kernel
theorem d1_49 : decode prog_74_method_1_code 49 = .ok (.aload_n 0, 1) := by decide +kernel
theorem d1_50 : decode prog_74_method_1_code 50 = .ok (.aconst_null, 1) := by decide +kernel
theorem d1_51 : decode prog_74_method_1_code 51 = .ok (.putfield 39, 3) := by decide +kernel
theorem d1_54 : decode prog_74_method_1_code 54 = .ok (.aload_n 0, 1) := by decide +kernel
theorem d1_55 : decode prog_74_method_1_code 55 = .ok (.aconst_null, 1) := by decide +kernel
theorem d1_56 : decode prog_74_method_1_code 56 = .ok (.putfield 42, 3) := by decide +kernel
theorem d1_59 : decode prog_74_method_1_code 59 = .ok (.return_, 1) := by decide +kernel
theorem d30_0 : decode prog_74_method_2_code 0 = .ok (.aload_n 0, 1) := by decide +kernel
theorem d30_1 : decode prog_74_method_2_code 1 = .ok (.invokespecial 1, 3) := by decide +kernel
theorem d30_4 : decode prog_74_method_2_code 4 = .ok (.aload_n 0, 1) := by decide +kernel
theorem d30_5 : decode prog_74_method_2_code 5 = .ok (.aload_n 1, 1) := by decide +kernel
theorem d30_6 : decode prog_74_method_2_code 6 = .ok (.getfield 25, 3) := by decide +kernel
theorem d30_9 : decode prog_74_method_2_code 9 = .ok (.putfield 25, 3) := by decide +kernel
theorem d30_12 : decode prog_74_method_2_code 12 = .ok (.aload_n 0, 1) := by decide +kernel
theorem d30_13 : decode prog_74_method_2_code 13 = .ok (.aload_n 1, 1) := by decide +kernel
theorem d30_14 : decode prog_74_method_2_code 14 = .ok (.getfield 31, 3) := by decide +kernel
theorem d30_17 : decode prog_74_method_2_code 17 = .ok (.putfield 31, 3) := by decide +kernel
theorem d30_20 : decode prog_74_method_2_code 20 = .ok (.aload_n 0, 1) := by decide +kernel
theorem d30_21 : decode prog_74_method_2_code 21 = .ok (.aload_n 2, 1) := by decide +kernel
theorem d30_22 : decode prog_74_method_2_code 22 = .ok (.putfield 33, 3) := by decide +kernel
theorem d30_25 : decode prog_74_method_2_code 25 = .ok (.aload_n 0, 1) := by decide +kernel
theorem d30_26 : decode prog_74_method_2_code 26 = .ok (.aload_n 3, 1) := by decide +kernel
theorem d30_27 : decode prog_74_method_2_code 27 = .ok (.putfield 36, 3) := by decide +kernel
theorem d30_30 : decode prog_74_method_2_code 30 = .ok (.aload_n 0, 1) := by decide +kernel
theorem d30_31 : decode prog_74_method_2_code 31 = .ok (.aload 4, 2) := by decide +kernel
theorem d30_33 : decode prog_74_method_2_code 33 = .ok (.putfield 39, 3) := by decide +kernel
theorem d30_36 : decode prog_74_method_2_code 36 = .ok (.aload_n 0, 1) := by decide +kernel
theorem d30_37 : decode prog_74_method_2_code 37 = .ok (.aload 5, 2) := by decide +kernel
theorem d30_39 : decode prog_74_method_2_code 39 = .ok (.putfield 42, 3) := by decide +kernel
theorem d30_42 : decode prog_74_method_2_code 42 = .ok (.return_, 1) := by decide +kernel
theorem d27_0 : decode prog_74_method_3_code 0 = .ok (.aload_n 1, 1) := by decide +kernel
theorem d27_1 : decode prog_74_method_3_code 1 = .ok (.ldc 7, 2) := by decide +kernel
theorem d27_3 : decode prog_74_method_3_code 3 = .ok (.invokestatic 9, 3) := by decide +kernel
theorem d27_6 : decode prog_74_method_3_code 6 = .ok (.checkcast 15, 3) := by decide +kernel
theorem d27_9 : decode prog_74_method_3_code 9 = .ok (.arraylength, 1) := by decide +kernel
theorem d27_10 : decode prog_74_method_3_code 10 = .ok (.istore 5, 2) := by decide +kernel
theorem d27_12 : decode prog_74_method_3_code 12 = .ok (.ldc2_w 47, 3) := by decide +kernel
theorem d27_15 : decode prog_74_method_3_code 15 = .ok (.dstore 6, 2) := by decide +kernel
theorem d27_17 : decode prog_74_method_3_code 17 = .ok (.new 26, 3) := by decide +kernel
theorem d27_20 : decode prog_74_method_3_code 20 = .ok (.dup, 1) := by decide +kernel
theorem d27_21 : decode prog_74_method_3_code 21 = .ok (.aload_n 0, 1) := by decide +kernel
theorem d27_22 : decode prog_74_method_3_code 22 = .ok (.aload_n 1, 1) := by decide +kernel
theorem d27_23 : decode prog_74_method_3_code 23 = .ok (.ldc 17, 2) := by decide +kernel
theorem d27_25 : decode prog_74_method_3_code 25 = .ok (.iload 5, 2) := by decide +kernel
theorem d27_27 : decode prog_74_method_3_code 27 = .ok (.dconst 0, 1) := by decide +kernel
theorem d27_28 : decode prog_74_method_3_code 28 = .ok (.invokestatic 19, 3) := by decide +kernel
theorem d27_31 : decode prog_74_method_3_code 31 = .ok (.aload_n 2, 1) := by decide +kernel
theorem d27_32 : decode prog_74_method_3_code 32 = .ok (.ldc 29, 2) := by decide +kernel
theorem d27_34 : decode prog_74_method_3_code 34 = .ok (.iload 5, 2) := by decide +kernel
theorem d27_36 : decode prog_74_method_3_code 36 = .ok (.dconst 0, 1) := by decide +kernel
theorem d27_37 : decode prog_74_method_3_code 37 = .ok (.invokestatic 19, 3) := by decide +kernel
theorem d27_40 : decode prog_74_method_3_code 40 = .ok (.aload_n 3, 1) := by decide +kernel
theorem d27_41 : decode prog_74_method_3_code 41 = .ok (.ldc 49, 2) := by decide +kernel
theorem d27_43 : decode prog_74_method_3_code 43 = .ok (.iload 5, 2) := by decide +kernel
theorem d27_45 : decode prog_74_method_3_code 45 = .ok (.dload 6, 2) := by decide +kernel
theorem d27_47 : decode prog_74_method_3_code 47 = .ok (.invokestatic 19, 3) := by decide +kernel
theorem d27_50 : decode prog_74_method_3_code 50 = .ok (.aload 4, 2) := by decide +kernel
theorem d27_52 : decode prog_74_method_3_code 52 = .ok (.ldc 51, 2) := by decide +kernel
theorem d27_54 : decode prog_74_method_3_code 54 = .ok (.iload 5, 2) := by decide +kernel
theorem d27_56 : decode prog_74_method_3_code 56 = .ok (.dload 6, 2) := by decide +kernel
theorem d27_58 : decode prog_74_method_3_code 58 = .ok (.invokestatic 19, 3) := by decide +kernel
theorem d27_61 : decode prog_74_method_3_code 61 = .ok (.invokespecial 53, 3) := by decide +kernel
theorem d27_64 : decode prog_74_method_3_code 64 = .ok (.areturn, 1) := by decide +kernel
theorem d31_0 : decode prog_74_method_5_code 0 = .ok (.aload_n 0, 1) := by decide +kernel
theorem d31_1 : decode prog_74_method_5_code 1 = .ok (.getfield 33, 3) := by decide +kernel
theorem d31_4 : decode prog_74_method_5_code 4 = .ok (.ifnonnull 7, 3) := by decide +kernel
theorem d31_7 : decode prog_74_method_5_code 7 = .ok (.iconst 0, 1) := by decide +kernel
theorem d31_8 : decode prog_74_method_5_code 8 = .ok (.goto 8, 3) := by decide +kernel
theorem d31_16 : decode prog_74_method_5_code 16 = .ok (.ireturn, 1) := by decide +kernel
theorem d31_11 : decode prog_74_method_5_code 11 = .ok (.aload_n 0, 1) := by decide +kernel
theorem d31_12 : decode prog_74_method_5_code 12 = .ok (.getfield 33, 3) := by decide +kernel
theorem d31_15 : decode prog_74_method_5_code 15 = .ok (.arraylength, 1) := by decide +kernel
theorem pd_0 : parseMethodDescriptor "(I)V" = some ⟨[.int], none⟩ := by decide +kernel
theorem pd_1 : parseMethodDescriptor "()B" = some ⟨[], some .byte⟩ := by decide +kernel
theorem pd_2 : parseMethodDescriptor "(Ljava/lang/String;)V" = some ⟨[(.object "java/lang/String")], none⟩ := by decide +kernel
theorem pd_3 : parseMethodDescriptor "([BIB)V" = some ⟨[(.array .byte), .int, .byte], none⟩ := by decide +kernel
theorem pd_4 : parseMethodDescriptor "()I" = some ⟨[], some .int⟩ := by decide +kernel
theorem pd_5 : parseMethodDescriptor "(ILjava/lang/String;)V" = some ⟨[.int, (.object "java/lang/String")], none⟩ := by decide +kernel
theorem pd_6 : parseMethodDescriptor "(Ljava/lang/String;)Ljava/lang/AbstractStringBuilder;" = some ⟨[(.object "java/lang/String")], some (.object "java/lang/AbstractStringBuilder")⟩ := by decide +kernel
theorem pd_7 : parseMethodDescriptor "(II)V" = some ⟨[.int, .int], none⟩ := by decide +kernel
theorem pd_8 : parseMethodDescriptor "(II)I" = some ⟨[.int, .int], some .int⟩ := by decide +kernel
theorem pd_9 : parseMethodDescriptor "([BII)[B" = some ⟨[(.array .byte), .int, .int], some (.array .byte)⟩ := by decide +kernel
theorem pd_10 : parseMethodDescriptor "()[B" = some ⟨[], some (.array .byte)⟩ := by decide +kernel
theorem pd_11 : parseMethodDescriptor "()Z" = some ⟨[], some .boolean⟩ := by decide +kernel
theorem pd_12 : parseMethodDescriptor "(Ljava/lang/AbstractStringBuilder;Ljava/lang/Void;)V" = some ⟨[(.object "java/lang/AbstractStringBuilder"), (.object "java/lang/Void")], none⟩ := by decide +kernel
theorem pd_13 : parseMethodDescriptor "(Ljava/lang/StringBuilder;)V" = some ⟨[(.object "java/lang/StringBuilder")], none⟩ := by decide +kernel
theorem pd_14 : parseMethodDescriptor "(D)D" = some ⟨[.double], some .double⟩ := by decide +kernel
theorem pd_15 : parseMethodDescriptor "(D)Z" = some ⟨[.double], some .boolean⟩ := by decide +kernel
theorem pd_16 : parseMethodDescriptor "()V" = some ⟨[], none⟩ := by decide +kernel
theorem pd_17 : parseMethodDescriptor "(Ljava/lang/String;)Ljava/lang/StringBuilder;" = some ⟨[(.object "java/lang/String")], some (.object "java/lang/StringBuilder")⟩ := by decide +kernel
theorem pd_18 : parseMethodDescriptor "()Ljava/lang/String;" = some ⟨[], some (.object "java/lang/String")⟩ := by decide +kernel
theorem pd_19 : parseMethodDescriptor "(Ljava/lang/Object;Ljava/lang/String;)Ljava/lang/Object;" = some ⟨[(.object "java/lang/Object"), (.object "java/lang/String")], some (.object "java/lang/Object")⟩ := by decide +kernel
theorem pd_20 : parseMethodDescriptor "([DD)I" = some ⟨[(.array .double), .double], some .int⟩ := by decide +kernel
theorem pd_21 : parseMethodDescriptor "([DLjava/lang/String;ID)[D" = some ⟨[(.array .double), (.object "java/lang/String"), .int, .double], some (.array .double)⟩ := by decide +kernel
theorem pd_22 : parseMethodDescriptor "(Lcom/example/ordr/ordr/model/BoxSizes;[D[D[D[D)V" = some ⟨[(.object "com/example/ordr/ordr/model/BoxSizes"), (.array .double), (.array .double), (.array .double), (.array .double)], none⟩ := by decide +kernel
theorem pd_23 : parseMethodDescriptor "([D[D)V" = some ⟨[(.array .double), (.array .double)], none⟩ := by decide +kernel
theorem pd_24 : parseMethodDescriptor "([D[D[D[D)Lcom/example/ordr/ordr/model/BoxSizes;" = some ⟨[(.array .double), (.array .double), (.array .double), (.array .double)], some (.object "com/example/ordr/ordr/model/BoxSizes")⟩ := by decide +kernel
theorem pn_6 : plainName "java/lang/AbstractStringBuilder" = true := by first | (simp [plainName, overriddenIn]; done) | decide +kernel
theorem pn_5 : plainName "java/lang/StringBuilder" = true := by first | (simp [plainName, overriddenIn]; done) | decide +kernel
theorem pn_10 : plainName "java/lang/String" = true := by first | (simp [plainName, overriddenIn]; done) | decide +kernel
theorem pn_9 : plainName "java/lang/String" = true := by first | (simp [plainName, overriddenIn]; done) | decide +kernel
theorem pn_11 : plainName "java/lang/AbstractStringBuilder" = true := by first | (simp [plainName, overriddenIn]; done) | decide +kernel
theorem pn_13 : plainName "java/lang/AbstractStringBuilder" = true := by first | (simp [plainName, overriddenIn]; done) | decide +kernel
theorem pn_14 : plainName "java/lang/String" = true := by first | (simp [plainName, overriddenIn]; done) | decide +kernel
theorem pn_12 : plainName "java/lang/AbstractStringBuilder" = true := by first | (simp [plainName, overriddenIn]; done) | decide +kernel
theorem pn_8 : plainName "java/lang/AbstractStringBuilder" = true := by first | (simp [plainName, overriddenIn]; done) | decide +kernel
theorem pn_7 : plainName "java/lang/StringBuilder" = true := by first | (simp [plainName, overriddenIn]; done) | decide +kernel
theorem pn_18 : plainName "java/lang/AbstractStringBuilder" = true := by first | (simp [plainName, overriddenIn]; done) | decide +kernel
theorem pn_20 : plainName "java/lang/AbstractStringBuilder" = true := by first | (simp [plainName, overriddenIn]; done) | decide +kernel
theorem pn_19 : plainName "java/lang/StringBuilder" = true := by first | (simp [plainName, overriddenIn]; done) | decide +kernel
theorem pn_21 : plainName "java/lang/AbstractStringBuilder" = true := by first | (simp [plainName, overriddenIn]; done) | decide +kernel
theorem pn_24 : plainName "java/util/Arrays" = true := by first | (simp [plainName, overriddenIn]; done) | decide +kernel
theorem pn_25 : plainFor (⟨"java/lang/Math", "min", "(II)I"⟩ : MethodName) = true := by decide +kernel
theorem pn_23 : plainName "java/util/Arrays" = true := by first | (simp [plainName, overriddenIn]; done) | decide +kernel
theorem pn_22 : plainName "java/util/Arrays" = true := by first | (simp [plainName, overriddenIn]; done) | decide +kernel
theorem pn_17 : plainName "java/lang/String" = true := by first | (simp [plainName, overriddenIn]; done) | decide +kernel
theorem pn_16 : plainName "java/lang/String" = true := by first | (simp [plainName, overriddenIn]; done) | decide +kernel
theorem pn_15 : plainName "java/lang/StringBuilder" = true := by first | (simp [plainName, overriddenIn]; done) | decide +kernel
theorem pn_3 : plainName "java/util/Objects" = true := by first | (simp [plainName, overriddenIn]; done) | decide +kernel
theorem pn_28 : plainName "java/lang/Double" = true := by first | (simp [plainName, overriddenIn]; done) | decide +kernel
theorem pn_26 : plainName "com/example/ordr/ordr/model/Layout" = true := by first | (simp [plainName, overriddenIn]; done) | decide +kernel
theorem pn_4 : plainName "com/example/ordr/ordr/model/Layout" = true := by first | (simp [plainName, overriddenIn]; done) | decide +kernel
theorem pn_1 : plainName "com/example/ordr/ordr/model/BoxSizes" = true := by first | (simp [plainName, overriddenIn]; done) | decide +kernel
theorem pn_30 : plainName "com/example/ordr/ordr/model/BoxSizes" = true := by first | (simp [plainName, overriddenIn]; done) | decide +kernel
theorem pn_27 : plainName "com/example/ordr/ordr/model/BoxSizes" = true := by first | (simp [plainName, overriddenIn]; done) | decide +kernel
theorem pn_31 : plainName "com/example/ordr/ordr/model/BoxSizes" = true := by first | (simp [plainName, overriddenIn]; done) | decide +kernel
theorem pn_0 : plainName "com/example/ordr/ordr/model/BoxSizesLabelCountPinLaw" = true := by first | (simp [plainName, overriddenIn]; done) | decide +kernel
theorem ef_rm6 (m : MethodId) (x0 : Nat) : entryFrame m #[(.ref x0), (.int (16 : Int32))] 2 = mkF m 0 #[.val (.ref x0), .val (.int (16 : Int32))] [] := by first | (simp [entryFrame, mkF, argsToLocals, Value.category]; done) | rfl
theorem ef_rm5 (m : MethodId) (x0 : Nat) : entryFrame m #[(.ref x0)] 1 = mkF m 0 #[.val (.ref x0)] [] := by first | (simp [entryFrame, mkF, argsToLocals, Value.category]; done) | rfl
theorem ef_rm10 (m : MethodId) (x0 : Nat) : entryFrame m #[(.ref x0)] 1 = mkF m 0 #[.val (.ref x0)] [] := by first | (simp [entryFrame, mkF, argsToLocals, Value.category]; done) | rfl
theorem ef_len6 (m : MethodId) (x0 : Nat) : entryFrame m #[(.ref x0)] 1 = mkF m 0 #[.val (.ref x0)] [] := by first | (simp [entryFrame, mkF, argsToLocals, Value.category]; done) | rfl
theorem ef_len7 (m : MethodId) (x0 : Nat) : entryFrame m #[(.ref x0)] 1 = mkF m 0 #[.val (.ref x0)] [] := by first | (simp [entryFrame, mkF, argsToLocals, Value.category]; done) | rfl
theorem ef_len8 (m : MethodId) (x0 : Nat) : entryFrame m #[(.ref x0)] 1 = mkF m 0 #[.val (.ref x0)] [] := by first | (simp [entryFrame, mkF, argsToLocals, Value.category]; done) | rfl
theorem ef_ens6 (m : MethodId) (x0 : Nat) : entryFrame m #[(.ref x0), (.int (6 : Int32))] 3 = mkF m 0 #[.val (.ref x0), .val (.int (6 : Int32)), .unset] [] := by first | (simp [entryFrame, mkF, argsToLocals, Value.category]; done) | rfl
theorem ef_ens7 (m : MethodId) (x0 : Nat) : entryFrame m #[(.ref x0), (.int (7 : Int32))] 3 = mkF m 0 #[.val (.ref x0), .val (.int (7 : Int32)), .unset] [] := by first | (simp [entryFrame, mkF, argsToLocals, Value.category]; done) | rfl
theorem ef_ens8 (m : MethodId) (x0 : Nat) : entryFrame m #[(.ref x0), (.int (8 : Int32))] 3 = mkF m 0 #[.val (.ref x0), .val (.int (8 : Int32)), .unset] [] := by first | (simp [entryFrame, mkF, argsToLocals, Value.category]; done) | rfl
theorem ef_ens14 (m : MethodId) (x0 : Nat) : entryFrame m #[(.ref x0), (.int (14 : Int32))] 3 = mkF m 0 #[.val (.ref x0), .val (.int (14 : Int32)), .unset] [] := by first | (simp [entryFrame, mkF, argsToLocals, Value.category]; done) | rfl
theorem ef_ens15 (m : MethodId) (x0 : Nat) : entryFrame m #[(.ref x0), (.int (15 : Int32))] 3 = mkF m 0 #[.val (.ref x0), .val (.int (15 : Int32)), .unset] [] := by first | (simp [entryFrame, mkF, argsToLocals, Value.category]; done) | rfl
theorem ef_ens16 (m : MethodId) (x0 : Nat) : entryFrame m #[(.ref x0), (.int (16 : Int32))] 3 = mkF m 0 #[.val (.ref x0), .val (.int (16 : Int32)), .unset] [] := by first | (simp [entryFrame, mkF, argsToLocals, Value.category]; done) | rfl
theorem ef_rm13 (m : MethodId) (x0 : Nat) (x1 : Nat) : entryFrame m #[(.ref x0), (.ref x1)] 2 = mkF m 0 #[.val (.ref x0), .val (.ref x1)] [] := by first | (simp [entryFrame, mkF, argsToLocals, Value.category]; done) | rfl
theorem ef_gb0_6 (m : MethodId) (x0 : Nat) (x1 : Nat) : entryFrame m #[(.ref x0), (.ref x1), (.int (0 : Int32)), (.int (0 : Int32))] 4 = mkF m 0 #[.val (.ref x0), .val (.ref x1), .val (.int (0 : Int32)), .val (.int (0 : Int32))] [] := by first | (simp [entryFrame, mkF, argsToLocals, Value.category]; done) | rfl
theorem ef_ps0_6 (m : MethodId) (x0 : Nat) (x2 : Nat) : entryFrame m #[(.ref x0), (.int (0 : Int32)), (.ref x2)] 3 = mkF m 0 #[.val (.ref x0), .val (.int (0 : Int32)), .val (.ref x2)] [] := by first | (simp [entryFrame, mkF, argsToLocals, Value.category]; done) | rfl
theorem ef_aa0_6 (m : MethodId) (x0 : Nat) (x1 : Nat) : entryFrame m #[(.ref x0), (.ref x1)] 3 = mkF m 0 #[.val (.ref x0), .val (.ref x1), .unset] [] := by first | (simp [entryFrame, mkF, argsToLocals, Value.category]; done) | rfl
theorem ef_ap0_6 (m : MethodId) (x0 : Nat) (x1 : Nat) : entryFrame m #[(.ref x0), (.ref x1)] 2 = mkF m 0 #[.val (.ref x0), .val (.ref x1)] [] := by first | (simp [entryFrame, mkF, argsToLocals, Value.category]; done) | rfl
theorem ef_gb0_7 (m : MethodId) (x0 : Nat) (x1 : Nat) : entryFrame m #[(.ref x0), (.ref x1), (.int (0 : Int32)), (.int (0 : Int32))] 4 = mkF m 0 #[.val (.ref x0), .val (.ref x1), .val (.int (0 : Int32)), .val (.int (0 : Int32))] [] := by first | (simp [entryFrame, mkF, argsToLocals, Value.category]; done) | rfl
theorem ef_ps0_7 (m : MethodId) (x0 : Nat) (x2 : Nat) : entryFrame m #[(.ref x0), (.int (0 : Int32)), (.ref x2)] 3 = mkF m 0 #[.val (.ref x0), .val (.int (0 : Int32)), .val (.ref x2)] [] := by first | (simp [entryFrame, mkF, argsToLocals, Value.category]; done) | rfl
theorem ef_aa0_7 (m : MethodId) (x0 : Nat) (x1 : Nat) : entryFrame m #[(.ref x0), (.ref x1)] 3 = mkF m 0 #[.val (.ref x0), .val (.ref x1), .unset] [] := by first | (simp [entryFrame, mkF, argsToLocals, Value.category]; done) | rfl
theorem ef_ap0_7 (m : MethodId) (x0 : Nat) (x1 : Nat) : entryFrame m #[(.ref x0), (.ref x1)] 2 = mkF m 0 #[.val (.ref x0), .val (.ref x1)] [] := by first | (simp [entryFrame, mkF, argsToLocals, Value.category]; done) | rfl
theorem ef_gb0_8 (m : MethodId) (x0 : Nat) (x1 : Nat) : entryFrame m #[(.ref x0), (.ref x1), (.int (0 : Int32)), (.int (0 : Int32))] 4 = mkF m 0 #[.val (.ref x0), .val (.ref x1), .val (.int (0 : Int32)), .val (.int (0 : Int32))] [] := by first | (simp [entryFrame, mkF, argsToLocals, Value.category]; done) | rfl
theorem ef_ps0_8 (m : MethodId) (x0 : Nat) (x2 : Nat) : entryFrame m #[(.ref x0), (.int (0 : Int32)), (.ref x2)] 3 = mkF m 0 #[.val (.ref x0), .val (.int (0 : Int32)), .val (.ref x2)] [] := by first | (simp [entryFrame, mkF, argsToLocals, Value.category]; done) | rfl
theorem ef_aa0_8 (m : MethodId) (x0 : Nat) (x1 : Nat) : entryFrame m #[(.ref x0), (.ref x1)] 3 = mkF m 0 #[.val (.ref x0), .val (.ref x1), .unset] [] := by first | (simp [entryFrame, mkF, argsToLocals, Value.category]; done) | rfl
theorem ef_ap0_8 (m : MethodId) (x0 : Nat) (x1 : Nat) : entryFrame m #[(.ref x0), (.ref x1)] 2 = mkF m 0 #[.val (.ref x0), .val (.ref x1)] [] := by first | (simp [entryFrame, mkF, argsToLocals, Value.category]; done) | rfl
theorem ef_gb6_8 (m : MethodId) (x0 : Nat) (x1 : Nat) : entryFrame m #[(.ref x0), (.ref x1), (.int (6 : Int32)), (.int (0 : Int32))] 4 = mkF m 0 #[.val (.ref x0), .val (.ref x1), .val (.int (6 : Int32)), .val (.int (0 : Int32))] [] := by first | (simp [entryFrame, mkF, argsToLocals, Value.category]; done) | rfl
theorem ef_ps6_8 (m : MethodId) (x0 : Nat) (x2 : Nat) : entryFrame m #[(.ref x0), (.int (6 : Int32)), (.ref x2)] 3 = mkF m 0 #[.val (.ref x0), .val (.int (6 : Int32)), .val (.ref x2)] [] := by first | (simp [entryFrame, mkF, argsToLocals, Value.category]; done) | rfl
theorem ef_aa6_8 (m : MethodId) (x0 : Nat) (x1 : Nat) : entryFrame m #[(.ref x0), (.ref x1)] 3 = mkF m 0 #[.val (.ref x0), .val (.ref x1), .unset] [] := by first | (simp [entryFrame, mkF, argsToLocals, Value.category]; done) | rfl
theorem ef_ap6_8 (m : MethodId) (x0 : Nat) (x1 : Nat) : entryFrame m #[(.ref x0), (.ref x1)] 2 = mkF m 0 #[.val (.ref x0), .val (.ref x1)] [] := by first | (simp [entryFrame, mkF, argsToLocals, Value.category]; done) | rfl
theorem ef_gb7_8 (m : MethodId) (x0 : Nat) (x1 : Nat) : entryFrame m #[(.ref x0), (.ref x1), (.int (7 : Int32)), (.int (0 : Int32))] 4 = mkF m 0 #[.val (.ref x0), .val (.ref x1), .val (.int (7 : Int32)), .val (.int (0 : Int32))] [] := by first | (simp [entryFrame, mkF, argsToLocals, Value.category]; done) | rfl
theorem ef_ps7_8 (m : MethodId) (x0 : Nat) (x2 : Nat) : entryFrame m #[(.ref x0), (.int (7 : Int32)), (.ref x2)] 3 = mkF m 0 #[.val (.ref x0), .val (.int (7 : Int32)), .val (.ref x2)] [] := by first | (simp [entryFrame, mkF, argsToLocals, Value.category]; done) | rfl
theorem ef_aa7_8 (m : MethodId) (x0 : Nat) (x1 : Nat) : entryFrame m #[(.ref x0), (.ref x1)] 3 = mkF m 0 #[.val (.ref x0), .val (.ref x1), .unset] [] := by first | (simp [entryFrame, mkF, argsToLocals, Value.category]; done) | rfl
theorem ef_ap7_8 (m : MethodId) (x0 : Nat) (x1 : Nat) : entryFrame m #[(.ref x0), (.ref x1)] 2 = mkF m 0 #[.val (.ref x0), .val (.ref x1)] [] := by first | (simp [entryFrame, mkF, argsToLocals, Value.category]; done) | rfl
theorem ef_gb8_8 (m : MethodId) (x0 : Nat) (x1 : Nat) : entryFrame m #[(.ref x0), (.ref x1), (.int (8 : Int32)), (.int (0 : Int32))] 4 = mkF m 0 #[.val (.ref x0), .val (.ref x1), .val (.int (8 : Int32)), .val (.int (0 : Int32))] [] := by first | (simp [entryFrame, mkF, argsToLocals, Value.category]; done) | rfl
theorem ef_ps8_8 (m : MethodId) (x0 : Nat) (x2 : Nat) : entryFrame m #[(.ref x0), (.int (8 : Int32)), (.ref x2)] 3 = mkF m 0 #[.val (.ref x0), .val (.int (8 : Int32)), .val (.ref x2)] [] := by first | (simp [entryFrame, mkF, argsToLocals, Value.category]; done) | rfl
theorem ef_aa8_8 (m : MethodId) (x0 : Nat) (x1 : Nat) : entryFrame m #[(.ref x0), (.ref x1)] 3 = mkF m 0 #[.val (.ref x0), .val (.ref x1), .unset] [] := by first | (simp [entryFrame, mkF, argsToLocals, Value.category]; done) | rfl
theorem ef_ap8_8 (m : MethodId) (x0 : Nat) (x1 : Nat) : entryFrame m #[(.ref x0), (.ref x1)] 2 = mkF m 0 #[.val (.ref x0), .val (.ref x1)] [] := by first | (simp [entryFrame, mkF, argsToLocals, Value.category]; done) | rfl
theorem ef_rm18 (m : MethodId) (x0 : Nat) : entryFrame m #[(.ref x0)] 1 = mkF m 0 #[.val (.ref x0)] [] := by first | (simp [entryFrame, mkF, argsToLocals, Value.category]; done) | rfl
theorem ef_rm20 (m : MethodId) (x0 : Nat) : entryFrame m #[(.ref x0)] 1 = mkF m 0 #[.val (.ref x0)] [] := by first | (simp [entryFrame, mkF, argsToLocals, Value.category]; done) | rfl
theorem ef_rm19 (m : MethodId) (x0 : Nat) : entryFrame m #[(.ref x0)] 1 = mkF m 0 #[.val (.ref x0)] [] := by first | (simp [entryFrame, mkF, argsToLocals, Value.category]; done) | rfl
theorem ef_rm21 (m : MethodId) (x0 : Nat) : entryFrame m #[(.ref x0)] 1 = mkF m 0 #[.val (.ref x0)] [] := by first | (simp [entryFrame, mkF, argsToLocals, Value.category]; done) | rfl
theorem ef_cl14 (m : MethodId)  : entryFrame m #[(.int (0 : Int32)), (.int (14 : Int32))] 2 = mkF m 0 #[.val (.int (0 : Int32)), .val (.int (14 : Int32))] [] := by first | (simp [entryFrame, mkF, argsToLocals, Value.category]; done) | rfl
theorem ef_min14 (m : MethodId)  : entryFrame m #[(.int (16 : Int32)), (.int (14 : Int32))] 2 = mkF m 0 #[.val (.int (16 : Int32)), .val (.int (14 : Int32))] [] := by first | (simp [entryFrame, mkF, argsToLocals, Value.category]; done) | rfl
theorem ef_crb14 (m : MethodId) (x0 : Nat) : entryFrame m #[(.ref x0), (.int (0 : Int32)), (.int (14 : Int32))] 5 = mkF m 0 #[.val (.ref x0), .val (.int (0 : Int32)), .val (.int (14 : Int32)), .unset, .unset] [] := by first | (simp [entryFrame, mkF, argsToLocals, Value.category]; done) | rfl
theorem ef_cr14 (m : MethodId) (x0 : Nat) : entryFrame m #[(.ref x0), (.int (0 : Int32)), (.int (14 : Int32))] 3 = mkF m 0 #[.val (.ref x0), .val (.int (0 : Int32)), .val (.int (14 : Int32))] [] := by first | (simp [entryFrame, mkF, argsToLocals, Value.category]; done) | rfl
theorem ef_cl15 (m : MethodId)  : entryFrame m #[(.int (0 : Int32)), (.int (15 : Int32))] 2 = mkF m 0 #[.val (.int (0 : Int32)), .val (.int (15 : Int32))] [] := by first | (simp [entryFrame, mkF, argsToLocals, Value.category]; done) | rfl
theorem ef_min15 (m : MethodId)  : entryFrame m #[(.int (16 : Int32)), (.int (15 : Int32))] 2 = mkF m 0 #[.val (.int (16 : Int32)), .val (.int (15 : Int32))] [] := by first | (simp [entryFrame, mkF, argsToLocals, Value.category]; done) | rfl
theorem ef_crb15 (m : MethodId) (x0 : Nat) : entryFrame m #[(.ref x0), (.int (0 : Int32)), (.int (15 : Int32))] 5 = mkF m 0 #[.val (.ref x0), .val (.int (0 : Int32)), .val (.int (15 : Int32)), .unset, .unset] [] := by first | (simp [entryFrame, mkF, argsToLocals, Value.category]; done) | rfl
theorem ef_cr15 (m : MethodId) (x0 : Nat) : entryFrame m #[(.ref x0), (.int (0 : Int32)), (.int (15 : Int32))] 3 = mkF m 0 #[.val (.ref x0), .val (.int (0 : Int32)), .val (.int (15 : Int32))] [] := by first | (simp [entryFrame, mkF, argsToLocals, Value.category]; done) | rfl
theorem ef_cr16 (m : MethodId) (x0 : Nat) : entryFrame m #[(.ref x0), (.int (0 : Int32)), (.int (16 : Int32))] 3 = mkF m 0 #[.val (.ref x0), .val (.int (0 : Int32)), .val (.int (16 : Int32))] [] := by first | (simp [entryFrame, mkF, argsToLocals, Value.category]; done) | rfl
theorem ef_sia14 (m : MethodId) (x0 : Nat) (x1 : Nat) : entryFrame m #[(.ref x0), (.ref x1), .null] 5 = mkF m 0 #[.val (.ref x0), .val (.ref x1), .val .null, .unset, .unset] [] := by first | (simp [entryFrame, mkF, argsToLocals, Value.category]; done) | rfl
theorem ef_sis14 (m : MethodId) (x0 : Nat) (x1 : Nat) : entryFrame m #[(.ref x0), (.ref x1)] 2 = mkF m 0 #[.val (.ref x0), .val (.ref x1)] [] := by first | (simp [entryFrame, mkF, argsToLocals, Value.category]; done) | rfl
theorem ef_ts14 (m : MethodId) (x0 : Nat) : entryFrame m #[(.ref x0)] 1 = mkF m 0 #[.val (.ref x0)] [] := by first | (simp [entryFrame, mkF, argsToLocals, Value.category]; done) | rfl
theorem ef_sia15 (m : MethodId) (x0 : Nat) (x1 : Nat) : entryFrame m #[(.ref x0), (.ref x1), .null] 5 = mkF m 0 #[.val (.ref x0), .val (.ref x1), .val .null, .unset, .unset] [] := by first | (simp [entryFrame, mkF, argsToLocals, Value.category]; done) | rfl
theorem ef_sis15 (m : MethodId) (x0 : Nat) (x1 : Nat) : entryFrame m #[(.ref x0), (.ref x1)] 2 = mkF m 0 #[.val (.ref x0), .val (.ref x1)] [] := by first | (simp [entryFrame, mkF, argsToLocals, Value.category]; done) | rfl
theorem ef_ts15 (m : MethodId) (x0 : Nat) : entryFrame m #[(.ref x0)] 1 = mkF m 0 #[.val (.ref x0)] [] := by first | (simp [entryFrame, mkF, argsToLocals, Value.category]; done) | rfl
theorem ef_sia16 (m : MethodId) (x0 : Nat) (x1 : Nat) : entryFrame m #[(.ref x0), (.ref x1), .null] 5 = mkF m 0 #[.val (.ref x0), .val (.ref x1), .val .null, .unset, .unset] [] := by first | (simp [entryFrame, mkF, argsToLocals, Value.category]; done) | rfl
theorem ef_sis16 (m : MethodId) (x0 : Nat) (x1 : Nat) : entryFrame m #[(.ref x0), (.ref x1)] 2 = mkF m 0 #[.val (.ref x0), .val (.ref x1)] [] := by first | (simp [entryFrame, mkF, argsToLocals, Value.category]; done) | rfl
theorem ef_ts16 (m : MethodId) (x0 : Nat) : entryFrame m #[(.ref x0)] 1 = mkF m 0 #[.val (.ref x0)] [] := by first | (simp [entryFrame, mkF, argsToLocals, Value.category]; done) | rfl
theorem ef_rm3 (m : MethodId) (x0 : Nat) (x1 : Nat) : entryFrame m #[(.ref x0), (.ref x1)] 2 = mkF m 0 #[.val (.ref x0), .val (.ref x1)] [] := by first | (simp [entryFrame, mkF, argsToLocals, Value.category]; done) | rfl
theorem ef_rm28 (m : MethodId)  : entryFrame m #[(.double (0 : UInt64))] 2 = mkF m 0 #[.val (.double (0 : UInt64)), .second] [] := by first | (simp [entryFrame, mkF, argsToLocals, Value.category]; done) | rfl
theorem ef_fb1 (m : MethodId) (x0 : Nat) (x1 : UInt64) : entryFrame m #[(.ref x0), (.double x1)] 4 = mkF m 0 #[.val (.ref x0), .val (.double x1), .second, .unset] [] := by first | (simp [entryFrame, mkF, argsToLocals, Value.category]; done) | rfl
theorem ef_fb2 (m : MethodId) (x0 : Nat) (x1 : UInt64) : entryFrame m #[(.ref x0), (.double x1)] 4 = mkF m 0 #[.val (.ref x0), .val (.double x1), .second, .unset] [] := by first | (simp [entryFrame, mkF, argsToLocals, Value.category]; done) | rfl
theorem ef_fb3 (m : MethodId) (x0 : Nat) (x1 : UInt64) : entryFrame m #[(.ref x0), (.double x1)] 4 = mkF m 0 #[.val (.ref x0), .val (.double x1), .second, .unset] [] := by first | (simp [entryFrame, mkF, argsToLocals, Value.category]; done) | rfl
theorem ef_fb4 (m : MethodId) (x0 : Nat) (x1 : UInt64) : entryFrame m #[(.ref x0), (.double x1)] 4 = mkF m 0 #[.val (.ref x0), .val (.double x1), .second, .unset] [] := by first | (simp [entryFrame, mkF, argsToLocals, Value.category]; done) | rfl
theorem ef_fb5 (m : MethodId) (x0 : Nat) (x1 : UInt64) : entryFrame m #[(.ref x0), (.double x1)] 4 = mkF m 0 #[.val (.ref x0), .val (.double x1), .second, .unset] [] := by first | (simp [entryFrame, mkF, argsToLocals, Value.category]; done) | rfl
theorem ef_fb6 (m : MethodId) (x0 : Nat) (x1 : UInt64) : entryFrame m #[(.ref x0), (.double x1)] 4 = mkF m 0 #[.val (.ref x0), .val (.double x1), .second, .unset] [] := by first | (simp [entryFrame, mkF, argsToLocals, Value.category]; done) | rfl
theorem ef_fb7 (m : MethodId) (x0 : Nat) (x1 : UInt64) : entryFrame m #[(.ref x0), (.double x1)] 4 = mkF m 0 #[.val (.ref x0), .val (.double x1), .second, .unset] [] := by first | (simp [entryFrame, mkF, argsToLocals, Value.category]; done) | rfl
theorem ef_fb0 (m : MethodId) (x0 : Nat) (x1 : UInt64) : entryFrame m #[(.ref x0), (.double x1)] 4 = mkF m 0 #[.val (.ref x0), .val (.double x1), .second, .unset] [] := by first | (simp [entryFrame, mkF, argsToLocals, Value.category]; done) | rfl
theorem ef_ck6 (m : MethodId) (x0 : Nat) (x1 : Nat) (x2 : Int32) : entryFrame m #[(.ref x0), (.ref x1), (.int x2), (.double (0 : UInt64))] 6 = mkF m 0 #[.val (.ref x0), .val (.ref x1), .val (.int x2), .val (.double (0 : UInt64)), .second, .unset] [] := by first | (simp [entryFrame, mkF, argsToLocals, Value.category]; done) | rfl
theorem ef_ck7 (m : MethodId) (x0 : Nat) (x1 : Nat) (x2 : Int32) : entryFrame m #[(.ref x0), (.ref x1), (.int x2), (.double (0 : UInt64))] 6 = mkF m 0 #[.val (.ref x0), .val (.ref x1), .val (.int x2), .val (.double (0 : UInt64)), .second, .unset] [] := by first | (simp [entryFrame, mkF, argsToLocals, Value.category]; done) | rfl
theorem ef_ck8 (m : MethodId) (x0 : Nat) (x1 : Nat) (x2 : Int32) : entryFrame m #[(.ref x0), (.ref x1), (.int x2), (.double (18442240474082181120 : UInt64))] 6 = mkF m 0 #[.val (.ref x0), .val (.ref x1), .val (.int x2), .val (.double (18442240474082181120 : UInt64)), .second, .unset] [] := by first | (simp [entryFrame, mkF, argsToLocals, Value.category]; done) | rfl
theorem ef_rm1 (m : MethodId) (x0 : Nat) (x1 : Nat) (x2 : Nat) : entryFrame m #[(.ref x0), (.ref x1), (.ref x2)] 4 = mkF m 0 #[.val (.ref x0), .val (.ref x1), .val (.ref x2), .unset] [] := by first | (simp [entryFrame, mkF, argsToLocals, Value.category]; done) | rfl
theorem ef_rm30 (m : MethodId) (x0 : Nat) (x1 : Nat) (x2 : Nat) (x3 : Nat) (x4 : Nat) (x5 : Nat) : entryFrame m #[(.ref x0), (.ref x1), (.ref x2), (.ref x3), (.ref x4), (.ref x5)] 6 = mkF m 0 #[.val (.ref x0), .val (.ref x1), .val (.ref x2), .val (.ref x3), .val (.ref x4), .val (.ref x5)] [] := by first | (simp [entryFrame, mkF, argsToLocals, Value.category]; done) | rfl
theorem ef_rm27 (m : MethodId) (x0 : Nat) (x1 : Nat) (x2 : Nat) (x3 : Nat) (x4 : Nat) : entryFrame m #[(.ref x0), (.ref x1), (.ref x2), (.ref x3), (.ref x4)] 8 = mkF m 0 #[.val (.ref x0), .val (.ref x1), .val (.ref x2), .val (.ref x3), .val (.ref x4), .unset, .unset, .unset] [] := by first | (simp [entryFrame, mkF, argsToLocals, Value.category]; done) | rfl
theorem ef_lc0 (m : MethodId) (x0 : Nat) : entryFrame m #[(.ref x0)] 1 = mkF m 0 #[.val (.ref x0)] [] := by first | (simp [entryFrame, mkF, argsToLocals, Value.category]; done) | rfl
theorem ef_lc1 (m : MethodId) (x0 : Nat) : entryFrame m #[(.ref x0)] 1 = mkF m 0 #[.val (.ref x0)] [] := by first | (simp [entryFrame, mkF, argsToLocals, Value.category]; done) | rfl
theorem ef_rm0 (m : MethodId) (x0 : Int32) (x1 : Int32) (x2 : Int32) (x3 : Int32) : entryFrame m #[(.int x0), (.int x1), (.int x2), (.int x3)] maxLocals = mkF m 0 #[.val (.int x0), .val (.int x1), .val (.int x2), .val (.int x3), .unset, .unset, .unset, .unset, .unset, .unset, .unset, .unset, .unset, .unset] [] := by first | (simp [entryFrame, mkF, argsToLocals, Value.category, maxLocals]; done) | rfl
set_option maxRecDepth 65536
set_option maxHeartbeats 40000000
theorem W {a0 : Array Value} {Z : State} (hw : ∀ d ∈ tables_1, d.before a0 Z = true) (i : Nat) {d : Jvm.Cond} (h : tables_1[i]? = some d := by rfl) : d.before a0 Z = true := hw _ (List.mem_of_getElem? h)
abbrev Rm (f c s l : Nat) : Room := { frames := f, cells := c, slots := s, locals := l }
theorem wle {a b : Nat} (h : a = b) : 2 * 0 + a ≤ b := by rw [h]; omega
section OwnHeld
variable {p : Program} {l : Launch} {e : Env} {R : Room} {s : State} {m : MethodId} {args : Array Value} {below : List Frame} {meth : Method} {c : Code} {T : State} {locs : List Loc} {cells slots : Nat} {Q : Option Value → Heap → List Loc → Prop} {kc ks : Nat} {S : State} {h h' : Heap} {vm vm₀ vm₁ : Vm} {n : Nat} {Z : State} {a0 : Array Value} {EL : List (String × Nat)}
theorem own_rebase (X : Stand p l e R ((s.setVm vm₀).setVm vm₁) m args below meth c T locs cells slots) : Stand p l e R (s.setVm vm₁) m args below meth c T locs cells slots := X
theorem own_base (X : Stand p l e R s m args below meth c T locs cells slots) : Stand p l e R (s.setVm s.vm) m args below meth c T locs cells slots := X
theorem Comes.wfin (X : Stand p l e R (s.setVm vm₁) m args below meth c T locs cells slots) {v : Option Value} (hv : meth.sig.returnType = none → v = none) (hlk : meth.locks = false)
    (hs : ∀ fs, (∀ (f : JFrame) (acts : List Action), f.method = m → f.locked = none → f.entered = [] → (doReturn e (T.setTop f) acts v).1 = T.setFrames fs) → Steps p.tables e below S (T.setFrames fs))
    (hS : s.Since vm₁ n) (hn : n ≤ h.size) (eT : T.heap = h) (hq : Q v h locs) (hc : cells ≤ kc) (hl : slots ≤ ks) : Comes p e below (EndsAtW below s Q kc ks) S := by
  obtain ⟨fs, hr, hrun, hended, h1, h2, h3, h4⟩ := X.leaveW hS (by rw [eT]; exact hn) (v := v) hv hlk
  exact ⟨_, hs fs hr, _, hrun, hended, _, _, rfl, (show Q v T.heap locs from by rw [eT]; exact hq), h1, h2, h3, h4.mono hc hl⟩
theorem Comes.wret0 (X : Stand p l e R (s.setVm vm₁) m args below meth c T locs cells slots) (hx : p.tables.exec = Jvm.exec) {pc : Nat} {Ls : Array Slot} (hret : meth.sig.returnType = none) (hlk : meth.locks = false) (hd : decode c.code pc = .ok (.return_, 1))
    (hS : s.Since vm₁ n) (hn : n ≤ h.size) (eT : T.heap = h) (hq : Q none h locs) (hc : cells ≤ kc) (hl : slots ≤ ks) : Comes p e below (EndsAtW below s Q kc ks) (T.setTop (mkF m pc Ls [])) :=
  Comes.wfin X (fun _ => rfl) hlk (fun _ hr => X.returnOut hx hret hd hr) hS hn eT hq hc hl
/-- how a body ends that Q allows, the invariant of the booked constants beside it -/
def EndsAtH (Z : State) (EL : List (String × Nat)) (below : List Frame) (s : State) (Q : Option Value → Heap → List Loc → Prop) (kc ks : Nat) (s₂ : State) : Prop := ∃ o, s₂.status = .running ∧ Ended s₂ below o ∧ ∃ v L, o = .returned v ∧ Q v s₂.heap L ∧ CHr Z EL s.vm s.heap s₂.vm s₂.heap ∧ ReturnedEndW s o s₂ L kc ks
theorem Comes.outH (h : Comes p e below (EndsAtH Z EL below s Q kc ks) S) : ∃ s₂ o, Steps p.tables e below S s₂ ∧ s₂.status = .running ∧ Ended s₂ below o ∧ ∃ v L, o = .returned v ∧ Q v s₂.heap L ∧ CHr Z EL s.vm s.heap s₂.vm s₂.heap ∧ ReturnedEndW s o s₂ L kc ks := by
  obtain ⟨s₂, h1, o, r⟩ := h; exact ⟨s₂, o, h1, r⟩
theorem Comes.hfin (X : Stand p l e R (s.setVm vm₁) m args below meth c T locs cells slots) {v : Option Value} (hv : meth.sig.returnType = none → v = none) (hlk : meth.locks = false)
    (hs : ∀ fs, (∀ (f : JFrame) (acts : List Action), f.method = m → f.locked = none → f.entered = [] → (doReturn e (T.setTop f) acts v).1 = T.setFrames fs) → Steps p.tables e below S (T.setFrames fs))
    (hS : s.Since vm₁ n) (hn : n ≤ h.size) (eT : T.heap = h) (hq : Q v h locs) (hc : cells ≤ kc) (hl : slots ≤ ks) (hC : CHr Z EL s.vm s.heap vm₁ h) (hZ : Z.Warmed39 vm₁) (w : EW Z a0 EL) : Comes p e below (EndsAtH Z EL below s Q kc ks) S := by
  obtain ⟨fs, hr, hrun, hended, h1, h2, h3, h4⟩ := X.leaveW hS (by rw [eT]; exact hn) (v := v) hv hlk
  have hD : CHr Z EL s.vm s.heap T.vm T.heap := by rw [eT]; exact hC.trans (CHv.at X hZ w hC.1)
  exact ⟨_, hs fs hr, _, hrun, hended, _, _, rfl, (show Q v T.heap locs from by rw [eT]; exact hq), hD, h1, h2, h3, h4.mono hc hl⟩
theorem Comes.hret0 (X : Stand p l e R (s.setVm vm₁) m args below meth c T locs cells slots) (hx : p.tables.exec = Jvm.exec) {pc : Nat} {Ls : Array Slot} (hret : meth.sig.returnType = none) (hlk : meth.locks = false) (hd : decode c.code pc = .ok (.return_, 1))
    (hS : s.Since vm₁ n) (hn : n ≤ h.size) (eT : T.heap = h) (hq : Q none h locs) (hc : cells ≤ kc) (hl : slots ≤ ks) (hC : CHr Z EL s.vm s.heap vm₁ h) (hZ : Z.Warmed39 vm₁) (w : EW Z a0 EL) : Comes p e below (EndsAtH Z EL below s Q kc ks) (T.setTop (mkF m pc Ls [])) :=
  Comes.hfin X (fun _ => rfl) hlk (fun _ hr => X.returnOut hx hret hd hr) hS hn eT hq hc hl hC hZ w
theorem Comes.hretV (X : Stand p l e R (s.setVm vm₁) m args below meth c T locs cells slots) (hx : p.tables.exec = Jvm.exec) {pc : Nat} {Ls : Array Slot} {w : Value} {t : FieldType} {i : Instr} {rest : List Value} (hret : meth.sig.returnType = some t) (hn' : narrow t w = w)
    (hi : (i = .ireturn ∧ (t = .int ∨ t = .boolean ∨ t = .byte ∨ t = .char ∨ t = .short) ∧ ∃ z, w = .int z) ∨ (i = .lreturn ∧ t = .long ∧ ∃ z, w = .long z) ∨ (i = .dreturn ∧ t = .double ∧ ∃ z, w = .double z) ∨ (i = .freturn ∧ t = .float ∧ ∃ z, w = .float z) ∨ (i = .areturn ∧ t.isReference = true ∧ w.isRef = true))
    (hlk : meth.locks = false) (hd : decode c.code pc = .ok (i, 1))
    (hS : s.Since vm₁ n) (hn : n ≤ h.size) (eT : T.heap = h) (hq : Q (some w) h locs) (hc : cells ≤ kc) (hl : slots ≤ ks) (hC : CHr Z EL s.vm s.heap vm₁ h) (hZ : Z.Warmed39 vm₁) (ew : EW Z a0 EL) : Comes p e below (EndsAtH Z EL below s Q kc ks) (T.setTop (mkF m pc Ls (w :: rest))) :=
  Comes.hfin X (fun q => by rw [hret] at q; cases q) hlk (fun _ hr => retOut X hx hret hn' hi hd hr) hS hn eT hq hc hl hC hZ ew
/-- a String whose 'value' is null is no booked constant, nor a booked constant's array -/
theorem own_safe {x : Addr} (hal : Z.vm.Alike vm) (E : Exa Z h x "java/lang/String") (F : Fld Z h x "java/lang/String" "value" "[B" .null) : Safe Z EL vm h x := fun B => by
  obtain ⟨cell, k, e1, e2, e3, -, -⟩ := E
  obtain ⟨c2, cf, k2, i2, f2, g1, g2, -, -, -, -, g7⟩ := F
  cases e1.symm.trans g1
  obtain ⟨p, -, u, a, -, q, -, F', rfl | rfl⟩ := B
  · cases (show h[q.sa]? = some q.sC from F'.ha).symm.trans e1
    obtain ⟨cS, ⟨⟨-, -, -, ⟨c1, k1, i1, f1, -⟩, -, -, -, v1, -⟩, -⟩, -⟩ := F'
    obtain ⟨k3, e4, -⟩ := State.fieldFound?_setVm (s := Z) hal g2
    have e5 := (show (Wst Z vm h).fieldFound? "java/lang/String" "value" "[B" = _ from e4).symm.trans f1
    simp only [Option.some.injEq, Prod.mk.injEq] at e5
    rw [← e5.2.2.2, g7] at v1
    cases v1
  · cases (show h[q.sd]? = some q.SA from F'.hd).symm.trans e1
    obtain ⟨cS, -, -, f, -⟩ := F'
    have f' : Z.vm.findClass "[B" = some q.SA.cls := by rw [← hal.findClass]; exact f
    exact ids_ne f' e2 (by decide) rfl
theorem own_safeV {x : Nat} {k : ClassId} {ty : FieldType} {z : Int32} {vs : List Value} {d : Value} (hal : Z.vm.Alike vm) (A : Arv Z h x k ty z vs d) (ht : ty ≠ .byte) : Safe Z EL vm h x := by
  obtain ⟨cl, A1, -⟩ := A; exact Safe.arr hal A1 ht
/-- a contract that interns nothing keeps the invariant -/
theorem own_lift {y : MethodName} {Sp : Spec} {A : Array Value} {K : Program → Env → List Frame → State → Array Value → Prop}
    (hM : MetFree l y Sp (fun a U => a = A ∧ Z.Warmed39 U.vm ∧ U.heap = h) K (fun _ U o U' => ∃ v L, o = .returned v ∧ Q v U'.heap L ∧ FrameEnd U o U' L kc ks)) (hQ : ∀ v h' L, Q v h' L → Keep h h' []) (w : EW Z a0 EL) :
    MetFree l y Sp (fun a U => a = A ∧ Z.Warmed39 U.vm ∧ U.heap = h ∧ CHv Z EL U.vm h) K (fun _ U o U' => ∃ v L, o = .returned v ∧ Q v U'.heap L ∧ CHr Z EL U.vm U.heap U'.vm U'.heap ∧ ReturnedEndW U o U' L kc ks) :=
  hM.mono (fun _ _ q => ⟨q.1, q.2.1, q.2.2.1⟩) (fun _ _ _ _ _ k => k) (fun _ t o t' ⟨_, hZ, hh, hC⟩ ⟨v, L, e1, q, fe⟩ => by
    subst hh
    have C1 := CHr.keep (hQ _ _ _ q) all0 hC
    have C2 := CHv.later (h' := t'.heap) hZ (hW := (show (Wst Z t.vm t'.heap).Warmed39 t'.vm from fe.2.1.wide)) w ⟨Nat.le_refl _, fun _ _ q => q⟩ (Or.inl fe.2.1.interned_eq) C1.1
    exact ⟨v, L, e1, q, C1.trans ⟨C2.1, Nat.le_refl _, C2.2⟩, fe.1, fe.2.1.wide, fe.2.1.no_new_pair _, fe.2.2⟩)
/-- String is no subclass of K -/
theorem own_nosub {K : String} {n : Nat} (w1 : (Jvm.Cond.superclass "java/lang/String" "java/lang/Object").before a0 Z = true) (w2 : (Jvm.Cond.noSuperclass "java/lang/Object").before a0 Z = true) (wk : (Jvm.Cond.instantiable K n).before a0 Z = true) (hn1 : "java/lang/String" ≠ K) (hn2 : "java/lang/Object" ≠ K) :
    ∃ c t, Z.vm.findClass "java/lang/String" = some c ∧ Z.vm.findClass K = some t ∧ Z.vm.assignable c t = false := by
  obtain ⟨t, k', g0, g2, g5, g7, -⟩ := Cond.instantiable_spec wk
  simp only [Bool.or_eq_false_iff] at g7
  obtain ⟨c, h0⟩ := found_sup w1
  obtain ⟨p, k, kp, h1, h2, h3, h4, h5, -, -⟩ := Cond.superclass_spec h0 w1
  obtain ⟨o, ko, o1, o2, o3, -⟩ := Cond.noSuperclass_spec w2
  cases o1.symm.trans h1
  have ne1 := ids_ne h0 g0 hn1
  have ne2 := ids_ne h1 g0 hn2
  have n3 : ∀ fuel, Z.vm.isSubclassAux fuel c t = false := fun fuel => by
    cases fuel with
    | zero => rfl
    | succ f =>
      cases f with
      | zero => simp [Vm.isSubclassAux, ne1, h2, h4]
      | succ f => simp [Vm.isSubclassAux, ne1, ne2, h2, h4, o2, o3]
  refine ⟨c, t, h0, g0, ?_⟩
  show Z.vm.assignableAux (255 + 1) c t = false
  simp [Vm.assignableAux, ne1, h2, g2, h5, g5, g7.1, Vm.isSubclass, n3]
end OwnHeld
theorem own_EW {Z : State} {a0 : Array Value} (hw : ∀ d ∈ tables_1, d.before a0 Z = true) : EW Z a0 consts_1 := EW.cons (text := "widths is null") (W hw 11) (by decide) (EW.cons (text := "widths") (W hw 25) (by decide) (EW.cons (text := "heights") (W hw 160) (by decide) (EW.cons (text := "offsetXs") (W hw 186) (by decide) (EW.cons (text := "offsetYs") (W hw 193) (by decide) (EW.cons (text := " is null") (W hw 98) (by decide) EW.nil)))))
def own_tx (t : String) : List Value := t.toList.map (fun c => Value.int (Jvm.Lit.byteI c.toNat.toUInt16))
section OwnMore
variable {p : Program} {l : Launch} {e : Env} {R : Room} {s : State} {m : MethodId} {args : Array Value} {below : List Frame} {meth : Method} {c : Code} {T : State} {locs : List Loc} {cells slots : Nat} {Z : State} {a0 : Array Value}
theorem own_dconst0 {g : JFrame} {target : State} (X : Stand p l e R s m args below meth c T locs cells slots) (hx : p.tables.exec = Jvm.exec) (hg : g.method = m) (hd : decode c.code g.pc = .ok (.dconst 0, 1))
    (hr : Steps p.tables e below (T.setTop { g with pc := g.pc + 1, stack := .double (0 : UInt64) :: g.stack }) target) : Steps p.tables e below (T.setTop g) target := by
  subst hg
  jvm_step X.here [X.here.top, hx, hd]
  exact hr
theorem own_same {y z : MethodName} {K : String} (ws : (Jvm.Cond.selects K z z).before a0 Z = true) (e : z.cls = y.cls) (wd : (Jvm.Cond.instanceMethod y).before a0 Z = true) (hy : y.cls ≠ "java/lang/invoke/MethodHandle" ∧ y.cls ≠ "java/lang/invoke/VarHandle") : (Jvm.Cond.sameMethod y.cls y.cls y.name y.desc).before a0 Z = true := by
  obtain ⟨m, meth, h1, h2, -, -⟩ := Cond.instanceMethod_spec wd
  obtain ⟨c, r, mz, g1, g2, g3, g4, mk, g5, g6⟩ := Cond.selects_spec ws
  have f1 := findClass_of_methodNamed h1
  have f2 := findClass_of_methodNamed g3
  rw [e] at f2
  have q : mz.cls = m.cls := Option.some.inj (f2.symm.trans f1)
  rw [q] at g5
  have h3 := State.methodFound?_of_named h1 hy
  have h4 : Z.methodNamed? ⟨y.cls, y.name, y.desc⟩ = some m := h1
  simp [Cond.before, Cond.holds, Cond.value, f1, h3, h4, g5, g6]
theorem own_nface {y z : MethodName} (hz : NotFace s z) (wz : (Jvm.Cond.instanceMethod z).before args s = true) (e : z.cls = y.cls) : NotFace s y := fun r0 h0 => by
  obtain ⟨mz, meth, h1, -, -, -⟩ := Cond.instanceMethod_spec wz
  obtain ⟨kr, g1, g2⟩ := hz mz h1
  have f1 := findClass_of_methodNamed h0
  have f2 := findClass_of_methodNamed h1
  rw [e] at f2
  have q : mz.cls = r0.cls := Option.some.inj (f2.symm.trans f1)
  exact ⟨kr, by rw [← q]; exact g1, g2⟩
theorem own_selq {y : MethodName} {K : String} (ws : (Jvm.Cond.selects K y y).before a0 Z = true) (wp : (Jvm.Cond.privateMethod y).before a0 Z = true) (wm : (Jvm.Cond.instanceMethod y).before a0 Z = true) (hy : y.cls ≠ "java/lang/invoke/MethodHandle" ∧ y.cls ≠ "java/lang/invoke/VarHandle") : (Jvm.Cond.selects y.cls y y).before a0 Z = true := by
  obtain ⟨c, r, mz, g1, g2, g3, g4, mk, g5, g6⟩ := Cond.selects_spec ws
  exact Jvm.Stand.selects_self_of_private (findClass_of_methodNamed g3) g5 g6 (Cond.privateMethod_at wp) wm hy
end OwnMore
theorem own_07 {n : Int32} (h : 0 ≤ n.toInt ∧ n.toInt ≤ 7) : n = 0 ∨ n = 1 ∨ n = 2 ∨ n = 3 ∨ n = 4 ∨ n = 5 ∨ n = 6 ∨ n = 7 := by
  rw [← Int32.toInt_inj, ← Int32.toInt_inj, ← Int32.toInt_inj, ← Int32.toInt_inj, ← Int32.toInt_inj, ← Int32.toInt_inj, ← Int32.toInt_inj, ← Int32.toInt_inj]
  have e0 : (0 : Int32).toInt = 0 := by decide
  have e1 : (1 : Int32).toInt = 1 := by decide
  have e2 : (2 : Int32).toInt = 2 := by decide
  have e3 : (3 : Int32).toInt = 3 := by decide
  have e4 : (4 : Int32).toInt = 4 := by decide
  have e5 : (5 : Int32).toInt = 5 := by decide
  have e6 : (6 : Int32).toInt = 6 := by decide
  have e7 : (7 : Int32).toInt = 7 := by decide
  omega
theorem own_n7 {n : Int32} (h : 0 ≤ n.toInt ∧ n.toInt ≤ 7) : n.toNatClampNeg ≤ 7 := by simp only [Int32.toNatClampNeg]; omega
theorem own_nn {n : Int32} (h : 0 ≤ n.toInt ∧ n.toInt ≤ 7) : ¬ n < 0 := by
  rw [Int32.lt_iff_toInt_lt]
  have : (0 : Int32).toInt = 0 := by decide
  omega
def Q_rm6 (Z : State) (sb : Nat) (cs : Int32) (h0 : Heap) (n0 : Nat) (v_ : Option Value) (h : Heap) (L_ : List Loc) : Prop := ∃ (vb : Nat), ∃ (kb : ClassId), (v_ = none) ∧ (Fr n0 L_) ∧ (Keep h0 h [sb]) ∧ (Exa Z h sb "java/lang/StringBuilder") ∧ (Fld Z h sb "java/lang/AbstractStringBuilder" "value" "[B" (.ref vb)) ∧ (Fld Z h sb "java/lang/AbstractStringBuilder" "coder" "B" (.int (0 : Int32))) ∧ (Fld Z h sb "java/lang/AbstractStringBuilder" "count" "I" (.int (0 : Int32))) ∧ (Arv Z h vb kb .byte (16 : Int32) [(.int (0 : Int32)), (.int (0 : Int32)), (.int (0 : Int32)), (.int (0 : Int32)), (.int (0 : Int32)), (.int (0 : Int32)), (.int (0 : Int32)), (.int (0 : Int32)), (.int (0 : Int32)), (.int (0 : Int32)), (.int (0 : Int32)), (.int (0 : Int32)), (.int (0 : Int32)), (.int (0 : Int32)), (.int (0 : Int32)), (.int (0 : Int32))] (.int (0 : Int32))) ∧ (Exa Z h vb "[B") ∧ (h0.size ≤ vb)
theorem rm6 (l : Launch) (Z : State) (a0 : Array Value) (hw : ∀ d ∈ tables_1, d.before a0 Z = true) (ws : List Jvm.Cond) (sb : Nat) (cs : Int32) (h0 : Heap) (n0 : Nat) (Z0 : n0 ≤ h0.size) (G0 : Exa Z h0 sb "java/lang/StringBuilder") (G1 : Fld Z h0 sb "java/lang/AbstractStringBuilder" "value" "[B" .null) (G2 : Fld Z h0 sb "java/lang/AbstractStringBuilder" "coder" "B" (.int (0 : Int32))) (G3 : Fld Z h0 sb "java/lang/AbstractStringBuilder" "count" "I" (.int (0 : Int32))) (G4 : Sta Z Z.heap "java/lang/String" "COMPACT_STRINGS" "Z" (.int cs)) (G5 : ¬ (cs = (0 : Int32))) (G6 : Old Z n0 h0) (G7 : n0 ≤ sb) :
    MetFree l (⟨"java/lang/AbstractStringBuilder", "<init>", "(I)V"⟩ : MethodName) (head1 (Jvm.Cond.code (⟨"java/lang/AbstractStringBuilder", "<init>", "(I)V"⟩ : MethodName) jdk_68_method_2_code 2 none :: ws) (Rm 1 1 16 12)) (fun a_ U_ => a_ = #[(.ref sb), (.int (16 : Int32))] ∧ Z.Warmed39 U_.vm ∧ U_.heap = h0) (fun _ _ _ _ _ => True) (fun _ U_ o_ V_ => ∃ v_ L_, o_ = .returned v_ ∧ Q_rm6 Z sb cs h0 n0 v_ V_.heap L_ ∧ FrameEnd U_ o_ V_ L_ (Rm 1 1 16 12).cells (Rm 1 1 16 12).slots) := by
  refine MetFree.of_bodySF (plainFor_of_name pn_6) hisR ?_
  intro p e s m args below meth c s₁ Bd hml0 hP hK
  obtain ⟨rfl, hZ, hh⟩ := hP
  have hx := Bd.exec
  have hby := Bd.bytes
  have hml : c.maxLocals = 2 := hml0
  have hown : s.vm.findClass "java/lang/AbstractStringBuilder" = some m.cls := findClass_of_methodNamed Bd.named
  have hnm := (name_of_methodNamed Bd.named Bd.method).1
  have hlk : meth.locks = false := Bd.notSynchronized
  have X0 : Stand p l e (Rm 1 1 16 12) s m #[(.ref sb), (.int (16 : Int32))] below meth c s₁ [] 0 0 := Stand.of_body Bd
  have e0 : s₁.heap = h0 := by rw [← hh, Bd.state]; rfl
  have N0 := Fr.nil n0
  have K0 := Keep.refl h0 [sb]
  refine Comes.out (Q := Q_rm6 Z sb cs h0 n0) (kc := (Rm 1 1 16 12).cells) (ks := (Rm 1 1 16 12).slots) ?_
  refine Comes.cast (ef_rm6 m sb) ?_
  have lt_sb : sb < h0.size := G0.lt
  show Comes p e below _ (s₁.setTop (mkF m 0 #[.val (.ref sb), .val (.int (16 : Int32))] []))
  refine Comes.st (fun t k => XS.aloadN X0.here hx rfl (hb hby d6_0) rfl rfl k) ?_
  show Comes p e below _ (s₁.setTop (mkF m 1 #[.val (.ref sb), .val (.int (16 : Int32))] [(.ref sb)]))
  obtain ⟨T1, X1, e1, st1⟩ := initO X0 hx hZ hown (W hw 42) (W hw 9) (W hw 10) e0 (g := (mkF m 1 #[.val (.ref sb), .val (.int (16 : Int32))] [(.ref sb)])) rfl (by rw [hml]; rfl) rfl (hb hby d6_1) (by decide) (W := 0) (by show 2 * 0 + _ ≤ _; exact Nat.le_of_eq rfl) (by decide)
  refine Comes.st st1 ?_
  show Comes p e below _ (T1.setTop (mkF m 4 #[.val (.ref sb), .val (.int (16 : Int32))] []))
  obtain ⟨T2, X2, e2, st2⟩ := getS2 X1 hx hZ hown (host := "") (Or.inl (W hw 43)) Via.refl e1 (G4.ext G6.2) (g := (mkF m 4 #[.val (.ref sb), .val (.int (16 : Int32))] [])) rfl (hb hby d6_4)
  refine Comes.st st2 ?_
  show Comes p e below _ (T2.setTop (mkF m 7 #[.val (.ref sb), .val (.int (16 : Int32))] [(.int cs)]))
  have hc7_3 : ¬ (cs = (0 : Int32)) := by assumption
  refine Comes.st (fun t k => XS.ifNo X2.here hx rfl (hb hby d6_7) rfl ((if0 _ _).trans (feq hc7_3).1) (XS.aloadN X2.here hx rfl (hb hby d6_10) rfl rfl (XS.iloadN X2.here hx rfl (hb hby d6_11) rfl k))) ?_
  show Comes p e below _ (T2.setTop (mkF m 12 #[.val (.ref sb), .val (.int (16 : Int32))] [(.int (16 : Int32)), (.ref sb)]))
  obtain ⟨T4, h4, k4, X4, e4, E4, A4, Ex4, st4⟩ := newPE X2 hx hZ (W hw 14) e2 (g := (mkF m 12 #[.val (.ref sb), .val (.int (16 : Int32))] [(.int (16 : Int32)), (.ref sb)])) rfl (hb hby d6_12) rfl (by decide) (cap := 16) (by decide) (by decide) (by decide) (by decide) (ad := "[B") (by decide)
  obtain ⟨b4, g4⟩ : ∃ z, z = h0.size := ⟨_, rfl⟩
  rw [← g4] at A4 Ex4 st4
  have z4 : h0.size ≤ h4.size := E4.1
  have lt4 : b4 < h4.size := A4.lt
  have V4 : Arv Z h4 b4 k4 .byte (16 : Int32) [(.int (0 : Int32)), (.int (0 : Int32)), (.int (0 : Int32)), (.int (0 : Int32)), (.int (0 : Int32)), (.int (0 : Int32)), (.int (0 : Int32)), (.int (0 : Int32)), (.int (0 : Int32)), (.int (0 : Int32)), (.int (0 : Int32)), (.int (0 : Int32)), (.int (0 : Int32)), (.int (0 : Int32)), (.int (0 : Int32)), (.int (0 : Int32))] (.int (0 : Int32)) := (Arv.new A4 (by decide)).pad (pad_rep [] (.int (0 : Int32)) 16)
  have K4 : Keep h0 h4 [sb] := K0.ext E4
  refine Comes.st st4 ?_
  show Comes p e below _ (T4.setTop (mkF m 14 #[.val (.ref sb), .val (.int (16 : Int32))] [(.ref b4), (.ref sb)]))
  have F5 : Exa Z h4 sb "java/lang/StringBuilder" := (G0.ext E4)
  have F6 : Fld Z h4 sb "java/lang/AbstractStringBuilder" "value" "[B" .null := (G1.ext E4)
  obtain ⟨T7, h7, X7, e7, W7, st7⟩ := putF X4 hx hZ hown (host := "") (Or.inl (W hw 44)) Via.refl e4 F6 F5 (Or.inl (W hw 45)) (W hw 31) (ty := (.array .byte)) (by decide) rfl rfl (g := (mkF m 14 #[.val (.ref sb), .val (.int (16 : Int32))] [(.ref b4), (.ref sb)])) rfl rfl (hb hby d6_14)
  have Fw7 := F6.same W7
  have z7 : h7.size = h4.size := W7.size
  have gn8 : n0 ≤ sb := by omega
  have N7 := Fr.snoc X7 N0 gn8
  have K7 : Keep h0 h7 [sb] := K4.wr W7 (Or.inl (List.mem_of_getElem? (i := 0) rfl))
  refine Comes.st st7 ?_
  show Comes p e below _ (T7.setTop (mkF m 17 #[.val (.ref sb), .val (.int (16 : Int32))] []))
  refine Comes.st (fun t k => XS.aloadN X7.here hx rfl (hb hby d6_17) rfl rfl (XS.iconst X7.here hx rfl (hb hby d6_18) k)) ?_
  show Comes p e below _ (T7.setTop (mkF m 19 #[.val (.ref sb), .val (.int (16 : Int32))] [(.int (0 : Int32)), (.ref sb)]))
  have F9 : Exa Z h7 sb "java/lang/StringBuilder" := (F5.wr W7)
  have F10 : Fld Z h7 sb "java/lang/AbstractStringBuilder" "coder" "B" (.int (0 : Int32)) := ((G2.ext E4).other W7 (Or.inr (slot_ne (Or.inl (W hw 47)) (Or.inl (W hw 45)) (by decide) (t := .byte) (t' := (.array .byte)) (by decide) (by decide))))
  obtain ⟨T11, h11, X11, e11, W11, st11⟩ := putFN X7 hx hZ hown (W hw 46) Via.refl e7 F10 F9 (Or.inl (W hw 47)) (W hw 31) (ty := .byte) (v' := (.int (nar .byte (0 : Int32)))) (by decide) rfl (fits_nar_byte _) (g := (mkF m 19 #[.val (.ref sb), .val (.int (16 : Int32))] [(.int (0 : Int32)), (.ref sb)])) rfl rfl (hb hby d6_19)
  have Fw11 := F10.same W11
  rw [show (nar .byte (0 : Int32)) = (0 : Int32) from by decide] at Fw11
  have z11 : h11.size = h7.size := W11.size
  have N11 := Fr.snoc X11 N7 gn8
  have K11 : Keep h0 h11 [sb] := K7.wr W11 (Or.inl (List.mem_of_getElem? (i := 0) rfl))
  refine Comes.st st11 ?_
  show Comes p e below _ (T11.setTop (mkF m 22 #[.val (.ref sb), .val (.int (16 : Int32))] []))
  refine Comes.st (fun t k => XS.goto X11.here hx rfl (pc0 := 22) (pc' := 38) rfl (hb hby d6_22) (by decide) (by decide) k) ?_
  show Comes p e below _ (T11.setTop (mkF m 38 #[.val (.ref sb), .val (.int (16 : Int32))] []))
  have F12 : Exa Z h11 sb "java/lang/StringBuilder" := (F9.wr W11)
  have F13 : Fld Z h11 sb "java/lang/AbstractStringBuilder" "value" "[B" (.ref b4) := (Fw7.other W11 (Or.inr (slot_ne (Or.inl (W hw 45)) (Or.inl (W hw 47)) (by decide) (t := (.array .byte)) (t' := .byte) (by decide) (by decide))))
  have F14 : Fld Z h11 sb "java/lang/AbstractStringBuilder" "count" "I" (.int (0 : Int32)) := (((G3.ext E4).other W7 (Or.inr (slot_ne (Or.inl (W hw 72)) (Or.inl (W hw 45)) (by decide) (t := .int) (t' := (.array .byte)) (by decide) (by decide)))).other W11 (Or.inr (slot_ne (Or.inl (W hw 72)) (Or.inl (W hw 47)) (by decide) (t := .int) (t' := .byte) (by decide) (by decide))))
  have ne15 : b4 ≠ sb := by omega
  have F16 : Arv Z h11 b4 k4 .byte (16 : Int32) [(.int (0 : Int32)), (.int (0 : Int32)), (.int (0 : Int32)), (.int (0 : Int32)), (.int (0 : Int32)), (.int (0 : Int32)), (.int (0 : Int32)), (.int (0 : Int32)), (.int (0 : Int32)), (.int (0 : Int32)), (.int (0 : Int32)), (.int (0 : Int32)), (.int (0 : Int32)), (.int (0 : Int32)), (.int (0 : Int32)), (.int (0 : Int32))] (.int (0 : Int32)) := ((V4.other W7 ne15).other W11 ne15)
  have F17 : Exa Z h11 b4 "[B" := ((Ex4.wr W7).wr W11)
  exact Comes.ret0 X11 hx Bd.returns hlk (hb hby d6_38) e11 ⟨b4, k4, rfl, N11, K11, F12, F13, Fw11, F14, F16, F17, (by omega)⟩ (by decide) (by decide)
def Q_rm5 (Z : State) (sb : Nat) (cs : Int32) (h0 : Heap) (n0 : Nat) (v_ : Option Value) (h : Heap) (L_ : List Loc) : Prop := ∃ (vb : Nat), ∃ (kb : ClassId), (v_ = none) ∧ (Fr n0 L_) ∧ (Keep h0 h [sb]) ∧ (Exa Z h sb "java/lang/StringBuilder") ∧ (Fld Z h sb "java/lang/AbstractStringBuilder" "value" "[B" (.ref vb)) ∧ (Fld Z h sb "java/lang/AbstractStringBuilder" "coder" "B" (.int (0 : Int32))) ∧ (Fld Z h sb "java/lang/AbstractStringBuilder" "count" "I" (.int (0 : Int32))) ∧ (Arv Z h vb kb .byte (16 : Int32) [(.int (0 : Int32)), (.int (0 : Int32)), (.int (0 : Int32)), (.int (0 : Int32)), (.int (0 : Int32)), (.int (0 : Int32)), (.int (0 : Int32)), (.int (0 : Int32)), (.int (0 : Int32)), (.int (0 : Int32)), (.int (0 : Int32)), (.int (0 : Int32)), (.int (0 : Int32)), (.int (0 : Int32)), (.int (0 : Int32)), (.int (0 : Int32))] (.int (0 : Int32))) ∧ (Exa Z h vb "[B") ∧ (h0.size ≤ vb)
theorem rm5 (l : Launch) (Z : State) (a0 : Array Value) (hw : ∀ d ∈ tables_1, d.before a0 Z = true) (ws : List Jvm.Cond) (sb : Nat) (cs : Int32) (h0 : Heap) (n0 : Nat) (Z0 : n0 ≤ h0.size) (G0 : Exa Z h0 sb "java/lang/StringBuilder") (G1 : Fld Z h0 sb "java/lang/AbstractStringBuilder" "value" "[B" .null) (G2 : Fld Z h0 sb "java/lang/AbstractStringBuilder" "coder" "B" (.int (0 : Int32))) (G3 : Fld Z h0 sb "java/lang/AbstractStringBuilder" "count" "I" (.int (0 : Int32))) (G4 : Sta Z Z.heap "java/lang/String" "COMPACT_STRINGS" "Z" (.int cs)) (G5 : ¬ (cs = (0 : Int32))) (G6 : Old Z n0 h0) (G7 : n0 ≤ sb) :
    MetFree l (⟨"java/lang/StringBuilder", "<init>", "()V"⟩ : MethodName) (head1 (Jvm.Cond.code (⟨"java/lang/StringBuilder", "<init>", "()V"⟩ : MethodName) jdk_67_method_1_code 1 none :: ws) (Rm 2 1 16 25)) (fun a_ U_ => a_ = #[(.ref sb)] ∧ Z.Warmed39 U_.vm ∧ U_.heap = h0) (fun _ _ _ _ _ => True) (fun _ U_ o_ V_ => ∃ v_ L_, o_ = .returned v_ ∧ Q_rm5 Z sb cs h0 n0 v_ V_.heap L_ ∧ FrameEnd U_ o_ V_ L_ (Rm 2 1 16 25).cells (Rm 2 1 16 25).slots) := by
  refine MetFree.of_bodySF (plainFor_of_name pn_5) hisR ?_
  intro p e s m args below meth c s₁ Bd hml0 hP hK
  obtain ⟨rfl, hZ, hh⟩ := hP
  have hx := Bd.exec
  have hby := Bd.bytes
  have hml : c.maxLocals = 1 := hml0
  have hown : s.vm.findClass "java/lang/StringBuilder" = some m.cls := findClass_of_methodNamed Bd.named
  have hnm := (name_of_methodNamed Bd.named Bd.method).1
  have hlk : meth.locks = false := Bd.notSynchronized
  have X0 : Stand p l e (Rm 2 1 16 25) s m #[(.ref sb)] below meth c s₁ [] 0 0 := Stand.of_body Bd
  have e0 : s₁.heap = h0 := by rw [← hh, Bd.state]; rfl
  have N0 := Fr.nil n0
  have K0 := Keep.refl h0 [sb]
  refine Comes.out (Q := Q_rm5 Z sb cs h0 n0) (kc := (Rm 2 1 16 25).cells) (ks := (Rm 2 1 16 25).slots) ?_
  refine Comes.cast (ef_rm5 m sb) ?_
  have lt_sb : sb < h0.size := G0.lt
  show Comes p e below _ (s₁.setTop (mkF m 0 #[.val (.ref sb)] []))
  refine Comes.st (fun t k => XS.aloadN X0.here hx rfl (hb hby d5_0) rfl rfl (XS.bipush X0.here hx rfl (hb hby d5_1) k)) ?_
  show Comes p e below _ (s₁.setTop (mkF m 3 #[.val (.ref sb)] [(.int (16 : Int32)), (.ref sb)]))
  obtain ⟨_, _, ⟨T1, L1, k1, n1⟩, -, X1, ⟨Lc1, hQ1, l1, y1, z1⟩, st1⟩ := X0.specialBack hx (y := (⟨"java/lang/AbstractStringBuilder", "<init>", "(I)V"⟩ : MethodName)) rfl hown (mvT hZ (W hw 36)) (mvT hZ (W hw 37)) (mvT hZ (W hw 41)) (by decide) (backOf (W := 0) (rm6 l Z a0 hw [] sb cs h0 n0 (by omega)  G0 G1 G2 G3 G4 (by assumption) G6 (by omega)) hZ (W hw 41) (W hw 40) (by decide) (by decide)) (g := (mkF m 3 #[.val (.ref sb)] [(.int (16 : Int32)), (.ref sb)])) rfl (by rw [hml]; rfl) (Steps.refl _) (a := sb) (argsL := [(.int (16 : Int32))]) (rest := []) (lenOf pd_0 rfl) rfl (by show 2 * 0 + _ ≤ _; exact Nat.le_of_eq rfl) (hb hby d5_3) (fun _ _ => ⟨rfl, e0, (by decide : 0 + 1 ≤ _), (by decide : 0 + 16 ≤ _)⟩)
  dsimp only [Pt.U, Pt.locs, Pt.cells, Pt.slots] at X1 l1 y1 z1 st1 hQ1
  subst l1 y1 z1
  obtain ⟨o2, r3, rfl, Nq1, Kq1, P1_0, P1_1, P1_2, P1_3, P1_4, P1_5, P1_6⟩ := hQ1
  have N1 := Fr.app N0 Nq1
  have z1k : h0.size ≤ T1.heap.size := Kq1.1
  have K1 : Keep h0 T1.heap [sb] := K0.trans Kq1 (allS (Or.inl (List.mem_of_getElem? (i := 0) rfl)) all0)
  refine Comes.go st1 ?_
  have lt_4 : o2 < T1.heap.size := P1_4.lt
  show Comes p e below _ (T1.setTop (mkF m 6 #[.val (.ref sb)] []))
  exact Comes.ret0 X1 hx Bd.returns hlk (hb hby d5_6) rfl ⟨o2, r3, rfl, N1, K1, P1_0, P1_1, P1_2, P1_3, P1_4, P1_5, (by omega)⟩ (by decide) (by decide)
def Q_rm10 (Z : State) (sg : Nat) (cs : Int32) (h0 : Heap) (n0 : Nat) (v_ : Option Value) (h : Heap) (L_ : List Loc) : Prop := (v_ = some (.int (0 : Int32))) ∧ (Fr n0 L_) ∧ (h = h0)
theorem rm10 (l : Launch) (Z : State) (a0 : Array Value) (hw : ∀ d ∈ tables_1, d.before a0 Z = true) (ws : List Jvm.Cond) (sg : Nat) (cs : Int32) (h0 : Heap) (n0 : Nat) (Z0 : n0 ≤ h0.size) (G0 : Fld Z h0 sg "java/lang/String" "coder" "B" (.int (0 : Int32))) (G1 : Sta Z Z.heap "java/lang/String" "COMPACT_STRINGS" "Z" (.int cs)) (G2 : ¬ (cs = (0 : Int32))) (G3 : Old Z n0 h0) :
    MetFree l (⟨"java/lang/String", "coder", "()B"⟩ : MethodName) (head1 (Jvm.Cond.code (⟨"java/lang/String", "coder", "()B"⟩ : MethodName) jdk_42_method_152_code 1 (some .byte) :: ws) (Rm 0 0 0 0)) (fun a_ U_ => a_ = #[(.ref sg)] ∧ Z.Warmed39 U_.vm ∧ U_.heap = h0) (fun _ _ _ _ _ => True) (fun _ U_ o_ V_ => ∃ v_ L_, o_ = .returned v_ ∧ Q_rm10 Z sg cs h0 n0 v_ V_.heap L_ ∧ FrameEnd U_ o_ V_ L_ (Rm 0 0 0 0).cells (Rm 0 0 0 0).slots) := by
  refine MetFree.of_bodySF (plainFor_of_name pn_10) hisR ?_
  intro p e s m args below meth c s₁ Bd hml0 hP hK
  obtain ⟨rfl, hZ, hh⟩ := hP
  have hx := Bd.exec
  have hby := Bd.bytes
  have hml : c.maxLocals = 1 := hml0
  have hown : s.vm.findClass "java/lang/String" = some m.cls := findClass_of_methodNamed Bd.named
  have hnm := (name_of_methodNamed Bd.named Bd.method).1
  have hlk : meth.locks = false := Bd.notSynchronized
  have X0 : Stand p l e (Rm 0 0 0 0) s m #[(.ref sg)] below meth c s₁ [] 0 0 := Stand.of_body Bd
  have e0 : s₁.heap = h0 := by rw [← hh, Bd.state]; rfl
  have N0 := Fr.nil n0
  refine Comes.out (Q := Q_rm10 Z sg cs h0 n0) (kc := (Rm 0 0 0 0).cells) (ks := (Rm 0 0 0 0).slots) ?_
  refine Comes.cast (ef_rm10 m sg) ?_
  have lt_sg : sg < h0.size := G0.lt
  show Comes p e below _ (s₁.setTop (mkF m 0 #[.val (.ref sg)] []))
  obtain ⟨T1, X1, e1, st1⟩ := getS2 X0 hx hZ hown (host := "") (Or.inl (W hw 69)) Via.refl e0 (G1.ext G3.2) (g := (mkF m 0 #[.val (.ref sg)] [])) rfl (hb hby d10_0)
  refine Comes.st st1 ?_
  show Comes p e below _ (T1.setTop (mkF m 3 #[.val (.ref sg)] [(.int cs)]))
  have hc3_2 : ¬ (cs = (0 : Int32)) := by assumption
  refine Comes.st (fun t k => XS.ifNo X1.here hx rfl (hb hby d10_3) rfl ((if0 _ _).trans (feq hc3_2).1) (XS.aloadN X1.here hx rfl (hb hby d10_6) rfl rfl k)) ?_
  show Comes p e below _ (T1.setTop (mkF m 7 #[.val (.ref sg)] [(.ref sg)]))
  obtain ⟨T3, X3, e3, st3⟩ := getF X1 hx hZ hown (host := "") (Or.inl (W hw 70)) Via.refl e1 G0 (g := (mkF m 7 #[.val (.ref sg)] [(.ref sg)])) rfl rfl (hb hby d10_7)
  refine Comes.st st3 ?_
  show Comes p e below _ (T3.setTop (mkF m 10 #[.val (.ref sg)] [(.int (0 : Int32))]))
  refine Comes.st (fun t k => XS.goto X3.here hx rfl (pc0 := 10) (pc' := 14) rfl (hb hby d10_10) (by decide) (by decide) k) ?_
  show Comes p e below _ (T3.setTop (mkF m 14 #[.val (.ref sg)] [(.int (0 : Int32))]))
  exact Comes.retN X3 hx (t := .byte) Bd.returns (by simp) hlk (hb hby d10_14) e3 ⟨rfl, N0, rfl⟩ (by decide) (by decide)
def Q_len6 (Z : State) (sg sv : Nat) (kv : ClassId) (vs : List Value) (cs : Int32) (h0 : Heap) (n0 : Nat) (v_ : Option Value) (h : Heap) (L_ : List Loc) : Prop := (v_ = some (.int (6 : Int32))) ∧ (Fr n0 L_) ∧ (h = h0)
theorem len6 (l : Launch) (Z : State) (a0 : Array Value) (hw : ∀ d ∈ tables_1, d.before a0 Z = true) (ws : List Jvm.Cond) (sg sv : Nat) (kv : ClassId) (vs : List Value) (cs : Int32) (h0 : Heap) (n0 : Nat) (Z0 : n0 ≤ h0.size) (G0 : Exa Z h0 sg "java/lang/String") (G1 : Fld Z h0 sg "java/lang/String" "value" "[B" (.ref sv)) (G2 : Fld Z h0 sg "java/lang/String" "coder" "B" (.int (0 : Int32))) (G3 : Arv Z h0 sv kv .byte (6 : Int32) vs (.int (0 : Int32))) (G4 : Sta Z Z.heap "java/lang/String" "COMPACT_STRINGS" "Z" (.int cs)) (G5 : ¬ (cs = (0 : Int32))) (G6 : Old Z n0 h0) :
    MetFree l (⟨"java/lang/String", "length", "()I"⟩ : MethodName) (head1 (Jvm.Cond.code (⟨"java/lang/String", "length", "()I"⟩ : MethodName) jdk_42_method_54_code 1 (some .int) :: ws) (Rm 1 0 0 13)) (fun a_ U_ => a_ = #[(.ref sg)] ∧ Z.Warmed39 U_.vm ∧ U_.heap = h0) (fun _ _ _ _ _ => True) (fun _ U_ o_ V_ => ∃ v_ L_, o_ = .returned v_ ∧ Q_len6 Z sg sv kv vs cs h0 n0 v_ V_.heap L_ ∧ FrameEnd U_ o_ V_ L_ (Rm 1 0 0 13).cells (Rm 1 0 0 13).slots) := by
  refine MetFree.of_bodySF (plainFor_of_name pn_9) hisR ?_
  intro p e s m args below meth c s₁ Bd hml0 hP hK
  obtain ⟨rfl, hZ, hh⟩ := hP
  have hx := Bd.exec
  have hby := Bd.bytes
  have hml : c.maxLocals = 1 := hml0
  have hown : s.vm.findClass "java/lang/String" = some m.cls := findClass_of_methodNamed Bd.named
  have hnm := (name_of_methodNamed Bd.named Bd.method).1
  have hlk : meth.locks = false := Bd.notSynchronized
  have X0 : Stand p l e (Rm 1 0 0 13) s m #[(.ref sg)] below meth c s₁ [] 0 0 := Stand.of_body Bd
  have e0 : s₁.heap = h0 := by rw [← hh, Bd.state]; rfl
  have N0 := Fr.nil n0
  refine Comes.out (Q := Q_len6 Z sg sv kv vs cs h0 n0) (kc := (Rm 1 0 0 13).cells) (ks := (Rm 1 0 0 13).slots) ?_
  refine Comes.cast (ef_len6 m sg) ?_
  have lt_sg : sg < h0.size := G0.lt
  have lt_sv : sv < h0.size := G3.lt
  show Comes p e below _ (s₁.setTop (mkF m 0 #[.val (.ref sg)] []))
  refine Comes.st (fun t k => XS.aloadN X0.here hx rfl (hb hby d9_0) rfl rfl k) ?_
  show Comes p e below _ (s₁.setTop (mkF m 1 #[.val (.ref sg)] [(.ref sg)]))
  obtain ⟨T1, X1, e1, st1⟩ := getF X0 hx hZ hown (host := "") (Or.inl (W hw 63)) Via.refl e0 G1 (g := (mkF m 1 #[.val (.ref sg)] [(.ref sg)])) rfl rfl (hb hby d9_1)
  refine Comes.st st1 ?_
  show Comes p e below _ (T1.setTop (mkF m 4 #[.val (.ref sg)] [(.ref sv)]))
  obtain ⟨cl2, Ar2, -, S2, Ng2, -, -⟩ := id G3
  refine Comes.st (fun t k => X1.arraylength hx (by rw [e1]; exact Ar2.1) (State.isArrayOf_alike hZ.alike Ar2.2.1) (g := (mkF m 4 #[.val (.ref sg)] [(.ref sv)])) rfl rfl (hb hby d9_4) _ k) ?_
  rw [len_of S2 Ng2]
  show Comes p e below _ (T1.setTop (mkF m 5 #[.val (.ref sg)] [(.int (6 : Int32))]))
  refine Comes.st (fun t k => XS.aloadN X1.here hx rfl (hb hby d9_5) rfl rfl k) ?_
  show Comes p e below _ (T1.setTop (mkF m 6 #[.val (.ref sg)] [(.ref sg), (.int (6 : Int32))]))
  obtain ⟨cq3, kq3, q3a, q3b, q3c⟩ := isOf hZ e1 G0
  obtain ⟨_, _, ⟨T3, L3, k3, n3⟩, -, X3, ⟨Lc3, hQ3, l3, y3, z3⟩, st3⟩ := X1.virtualBack hx (y := (⟨"java/lang/String", "coder", "()B"⟩ : MethodName)) (z := (⟨"java/lang/String", "coder", "()B"⟩ : MethodName)) hown (mvT hZ (W hw 64)) (mvT hZ (W hw 65)) (notFace_of_selects (args := #[]) (mvT hZ (W hw 67))) (mvT hZ (W hw 67)) (mvT hZ (W hw 66)) (by decide) (backOf (W := 1) (rm10 l Z a0 hw [] sg cs h0 n0 (by omega)  G2 G4 (by assumption) G6) hZ (W hw 68) (W hw 12) (by decide) (by decide)) q3a q3c (g := (mkF m 6 #[.val (.ref sg)] [(.ref sg), (.int (6 : Int32))])) rfl (by rw [hml]; rfl) (Steps.refl _) (argsL := []) (rest := [(.int (6 : Int32))]) (lenOf pd_1 rfl) rfl (by show 2 * 0 + _ ≤ _; exact Nat.le_of_eq rfl) (hb hby d9_6) (fun _ _ => ⟨rfl, e1, (by decide : 0 + 0 ≤ _), (by decide : 0 + 0 ≤ _)⟩)
  dsimp only [Pt.U, Pt.locs, Pt.cells, Pt.slots] at X3 l3 y3 z3 st3 hQ3
  subst l3 y3 z3
  obtain ⟨rfl, Nq3, hs3⟩ := hQ3
  have N3 := Fr.app N0 Nq3
  refine Comes.go st3 ?_
  show Comes p e below _ (T3.setTop (mkF m 9 #[.val (.ref sg)] [(.int (0 : Int32)), (.int (6 : Int32))]))
  refine Comes.st (fun t k => XS.ishr X3.here hx rfl (hb hby d9_9) rfl k) ?_
  show Comes p e below _ (T3.setTop (mkF m 10 #[.val (.ref sg)] [(.int ((6 : Int32) >>> ((0 : Int32) &&& 31)))]))
  rw [show ((6 : Int32) >>> ((0 : Int32) &&& 31)) = (6 : Int32) from by decide]
  show Comes p e below _ (T3.setTop (mkF m 10 #[.val (.ref sg)] [(.int (6 : Int32))]))
  exact Comes.retV X3 hx Bd.returns rfl (Or.inl ⟨rfl, Or.inl rfl, _, rfl⟩) hlk (hb hby d9_10) hs3 ⟨rfl, N3, rfl⟩ (by decide) (by decide)
def Q_len7 (Z : State) (sg sv : Nat) (kv : ClassId) (vs : List Value) (cs : Int32) (h0 : Heap) (n0 : Nat) (v_ : Option Value) (h : Heap) (L_ : List Loc) : Prop := (v_ = some (.int (7 : Int32))) ∧ (Fr n0 L_) ∧ (h = h0)
theorem len7 (l : Launch) (Z : State) (a0 : Array Value) (hw : ∀ d ∈ tables_1, d.before a0 Z = true) (ws : List Jvm.Cond) (sg sv : Nat) (kv : ClassId) (vs : List Value) (cs : Int32) (h0 : Heap) (n0 : Nat) (Z0 : n0 ≤ h0.size) (G0 : Exa Z h0 sg "java/lang/String") (G1 : Fld Z h0 sg "java/lang/String" "value" "[B" (.ref sv)) (G2 : Fld Z h0 sg "java/lang/String" "coder" "B" (.int (0 : Int32))) (G3 : Arv Z h0 sv kv .byte (7 : Int32) vs (.int (0 : Int32))) (G4 : Sta Z Z.heap "java/lang/String" "COMPACT_STRINGS" "Z" (.int cs)) (G5 : ¬ (cs = (0 : Int32))) (G6 : Old Z n0 h0) :
    MetFree l (⟨"java/lang/String", "length", "()I"⟩ : MethodName) (head1 (Jvm.Cond.code (⟨"java/lang/String", "length", "()I"⟩ : MethodName) jdk_42_method_54_code 1 (some .int) :: ws) (Rm 1 0 0 13)) (fun a_ U_ => a_ = #[(.ref sg)] ∧ Z.Warmed39 U_.vm ∧ U_.heap = h0) (fun _ _ _ _ _ => True) (fun _ U_ o_ V_ => ∃ v_ L_, o_ = .returned v_ ∧ Q_len7 Z sg sv kv vs cs h0 n0 v_ V_.heap L_ ∧ FrameEnd U_ o_ V_ L_ (Rm 1 0 0 13).cells (Rm 1 0 0 13).slots) := by
  refine MetFree.of_bodySF (plainFor_of_name pn_9) hisR ?_
  intro p e s m args below meth c s₁ Bd hml0 hP hK
  obtain ⟨rfl, hZ, hh⟩ := hP
  have hx := Bd.exec
  have hby := Bd.bytes
  have hml : c.maxLocals = 1 := hml0
  have hown : s.vm.findClass "java/lang/String" = some m.cls := findClass_of_methodNamed Bd.named
  have hnm := (name_of_methodNamed Bd.named Bd.method).1
  have hlk : meth.locks = false := Bd.notSynchronized
  have X0 : Stand p l e (Rm 1 0 0 13) s m #[(.ref sg)] below meth c s₁ [] 0 0 := Stand.of_body Bd
  have e0 : s₁.heap = h0 := by rw [← hh, Bd.state]; rfl
  have N0 := Fr.nil n0
  refine Comes.out (Q := Q_len7 Z sg sv kv vs cs h0 n0) (kc := (Rm 1 0 0 13).cells) (ks := (Rm 1 0 0 13).slots) ?_
  refine Comes.cast (ef_len7 m sg) ?_
  have lt_sg : sg < h0.size := G0.lt
  have lt_sv : sv < h0.size := G3.lt
  show Comes p e below _ (s₁.setTop (mkF m 0 #[.val (.ref sg)] []))
  refine Comes.st (fun t k => XS.aloadN X0.here hx rfl (hb hby d9_0) rfl rfl k) ?_
  show Comes p e below _ (s₁.setTop (mkF m 1 #[.val (.ref sg)] [(.ref sg)]))
  obtain ⟨T1, X1, e1, st1⟩ := getF X0 hx hZ hown (host := "") (Or.inl (W hw 63)) Via.refl e0 G1 (g := (mkF m 1 #[.val (.ref sg)] [(.ref sg)])) rfl rfl (hb hby d9_1)
  refine Comes.st st1 ?_
  show Comes p e below _ (T1.setTop (mkF m 4 #[.val (.ref sg)] [(.ref sv)]))
  obtain ⟨cl2, Ar2, -, S2, Ng2, -, -⟩ := id G3
  refine Comes.st (fun t k => X1.arraylength hx (by rw [e1]; exact Ar2.1) (State.isArrayOf_alike hZ.alike Ar2.2.1) (g := (mkF m 4 #[.val (.ref sg)] [(.ref sv)])) rfl rfl (hb hby d9_4) _ k) ?_
  rw [len_of S2 Ng2]
  show Comes p e below _ (T1.setTop (mkF m 5 #[.val (.ref sg)] [(.int (7 : Int32))]))
  refine Comes.st (fun t k => XS.aloadN X1.here hx rfl (hb hby d9_5) rfl rfl k) ?_
  show Comes p e below _ (T1.setTop (mkF m 6 #[.val (.ref sg)] [(.ref sg), (.int (7 : Int32))]))
  obtain ⟨cq3, kq3, q3a, q3b, q3c⟩ := isOf hZ e1 G0
  obtain ⟨_, _, ⟨T3, L3, k3, n3⟩, -, X3, ⟨Lc3, hQ3, l3, y3, z3⟩, st3⟩ := X1.virtualBack hx (y := (⟨"java/lang/String", "coder", "()B"⟩ : MethodName)) (z := (⟨"java/lang/String", "coder", "()B"⟩ : MethodName)) hown (mvT hZ (W hw 64)) (mvT hZ (W hw 65)) (notFace_of_selects (args := #[]) (mvT hZ (W hw 67))) (mvT hZ (W hw 67)) (mvT hZ (W hw 66)) (by decide) (backOf (W := 1) (rm10 l Z a0 hw [] sg cs h0 n0 (by omega)  G2 G4 (by assumption) G6) hZ (W hw 68) (W hw 12) (by decide) (by decide)) q3a q3c (g := (mkF m 6 #[.val (.ref sg)] [(.ref sg), (.int (7 : Int32))])) rfl (by rw [hml]; rfl) (Steps.refl _) (argsL := []) (rest := [(.int (7 : Int32))]) (lenOf pd_1 rfl) rfl (by show 2 * 0 + _ ≤ _; exact Nat.le_of_eq rfl) (hb hby d9_6) (fun _ _ => ⟨rfl, e1, (by decide : 0 + 0 ≤ _), (by decide : 0 + 0 ≤ _)⟩)
  dsimp only [Pt.U, Pt.locs, Pt.cells, Pt.slots] at X3 l3 y3 z3 st3 hQ3
  subst l3 y3 z3
  obtain ⟨rfl, Nq3, hs3⟩ := hQ3
  have N3 := Fr.app N0 Nq3
  refine Comes.go st3 ?_
  show Comes p e below _ (T3.setTop (mkF m 9 #[.val (.ref sg)] [(.int (0 : Int32)), (.int (7 : Int32))]))
  refine Comes.st (fun t k => XS.ishr X3.here hx rfl (hb hby d9_9) rfl k) ?_
  show Comes p e below _ (T3.setTop (mkF m 10 #[.val (.ref sg)] [(.int ((7 : Int32) >>> ((0 : Int32) &&& 31)))]))
  rw [show ((7 : Int32) >>> ((0 : Int32) &&& 31)) = (7 : Int32) from by decide]
  show Comes p e below _ (T3.setTop (mkF m 10 #[.val (.ref sg)] [(.int (7 : Int32))]))
  exact Comes.retV X3 hx Bd.returns rfl (Or.inl ⟨rfl, Or.inl rfl, _, rfl⟩) hlk (hb hby d9_10) hs3 ⟨rfl, N3, rfl⟩ (by decide) (by decide)
def Q_len8 (Z : State) (sg sv : Nat) (kv : ClassId) (vs : List Value) (cs : Int32) (h0 : Heap) (n0 : Nat) (v_ : Option Value) (h : Heap) (L_ : List Loc) : Prop := (v_ = some (.int (8 : Int32))) ∧ (Fr n0 L_) ∧ (h = h0)
theorem len8 (l : Launch) (Z : State) (a0 : Array Value) (hw : ∀ d ∈ tables_1, d.before a0 Z = true) (ws : List Jvm.Cond) (sg sv : Nat) (kv : ClassId) (vs : List Value) (cs : Int32) (h0 : Heap) (n0 : Nat) (Z0 : n0 ≤ h0.size) (G0 : Exa Z h0 sg "java/lang/String") (G1 : Fld Z h0 sg "java/lang/String" "value" "[B" (.ref sv)) (G2 : Fld Z h0 sg "java/lang/String" "coder" "B" (.int (0 : Int32))) (G3 : Arv Z h0 sv kv .byte (8 : Int32) vs (.int (0 : Int32))) (G4 : Sta Z Z.heap "java/lang/String" "COMPACT_STRINGS" "Z" (.int cs)) (G5 : ¬ (cs = (0 : Int32))) (G6 : Old Z n0 h0) :
    MetFree l (⟨"java/lang/String", "length", "()I"⟩ : MethodName) (head1 (Jvm.Cond.code (⟨"java/lang/String", "length", "()I"⟩ : MethodName) jdk_42_method_54_code 1 (some .int) :: ws) (Rm 1 0 0 13)) (fun a_ U_ => a_ = #[(.ref sg)] ∧ Z.Warmed39 U_.vm ∧ U_.heap = h0) (fun _ _ _ _ _ => True) (fun _ U_ o_ V_ => ∃ v_ L_, o_ = .returned v_ ∧ Q_len8 Z sg sv kv vs cs h0 n0 v_ V_.heap L_ ∧ FrameEnd U_ o_ V_ L_ (Rm 1 0 0 13).cells (Rm 1 0 0 13).slots) := by
  refine MetFree.of_bodySF (plainFor_of_name pn_9) hisR ?_
  intro p e s m args below meth c s₁ Bd hml0 hP hK
  obtain ⟨rfl, hZ, hh⟩ := hP
  have hx := Bd.exec
  have hby := Bd.bytes
  have hml : c.maxLocals = 1 := hml0
  have hown : s.vm.findClass "java/lang/String" = some m.cls := findClass_of_methodNamed Bd.named
  have hnm := (name_of_methodNamed Bd.named Bd.method).1
  have hlk : meth.locks = false := Bd.notSynchronized
  have X0 : Stand p l e (Rm 1 0 0 13) s m #[(.ref sg)] below meth c s₁ [] 0 0 := Stand.of_body Bd
  have e0 : s₁.heap = h0 := by rw [← hh, Bd.state]; rfl
  have N0 := Fr.nil n0
  refine Comes.out (Q := Q_len8 Z sg sv kv vs cs h0 n0) (kc := (Rm 1 0 0 13).cells) (ks := (Rm 1 0 0 13).slots) ?_
  refine Comes.cast (ef_len8 m sg) ?_
  have lt_sg : sg < h0.size := G0.lt
  have lt_sv : sv < h0.size := G3.lt
  show Comes p e below _ (s₁.setTop (mkF m 0 #[.val (.ref sg)] []))
  refine Comes.st (fun t k => XS.aloadN X0.here hx rfl (hb hby d9_0) rfl rfl k) ?_
  show Comes p e below _ (s₁.setTop (mkF m 1 #[.val (.ref sg)] [(.ref sg)]))
  obtain ⟨T1, X1, e1, st1⟩ := getF X0 hx hZ hown (host := "") (Or.inl (W hw 63)) Via.refl e0 G1 (g := (mkF m 1 #[.val (.ref sg)] [(.ref sg)])) rfl rfl (hb hby d9_1)
  refine Comes.st st1 ?_
  show Comes p e below _ (T1.setTop (mkF m 4 #[.val (.ref sg)] [(.ref sv)]))
  obtain ⟨cl2, Ar2, -, S2, Ng2, -, -⟩ := id G3
  refine Comes.st (fun t k => X1.arraylength hx (by rw [e1]; exact Ar2.1) (State.isArrayOf_alike hZ.alike Ar2.2.1) (g := (mkF m 4 #[.val (.ref sg)] [(.ref sv)])) rfl rfl (hb hby d9_4) _ k) ?_
  rw [len_of S2 Ng2]
  show Comes p e below _ (T1.setTop (mkF m 5 #[.val (.ref sg)] [(.int (8 : Int32))]))
  refine Comes.st (fun t k => XS.aloadN X1.here hx rfl (hb hby d9_5) rfl rfl k) ?_
  show Comes p e below _ (T1.setTop (mkF m 6 #[.val (.ref sg)] [(.ref sg), (.int (8 : Int32))]))
  obtain ⟨cq3, kq3, q3a, q3b, q3c⟩ := isOf hZ e1 G0
  obtain ⟨_, _, ⟨T3, L3, k3, n3⟩, -, X3, ⟨Lc3, hQ3, l3, y3, z3⟩, st3⟩ := X1.virtualBack hx (y := (⟨"java/lang/String", "coder", "()B"⟩ : MethodName)) (z := (⟨"java/lang/String", "coder", "()B"⟩ : MethodName)) hown (mvT hZ (W hw 64)) (mvT hZ (W hw 65)) (notFace_of_selects (args := #[]) (mvT hZ (W hw 67))) (mvT hZ (W hw 67)) (mvT hZ (W hw 66)) (by decide) (backOf (W := 1) (rm10 l Z a0 hw [] sg cs h0 n0 (by omega)  G2 G4 (by assumption) G6) hZ (W hw 68) (W hw 12) (by decide) (by decide)) q3a q3c (g := (mkF m 6 #[.val (.ref sg)] [(.ref sg), (.int (8 : Int32))])) rfl (by rw [hml]; rfl) (Steps.refl _) (argsL := []) (rest := [(.int (8 : Int32))]) (lenOf pd_1 rfl) rfl (by show 2 * 0 + _ ≤ _; exact Nat.le_of_eq rfl) (hb hby d9_6) (fun _ _ => ⟨rfl, e1, (by decide : 0 + 0 ≤ _), (by decide : 0 + 0 ≤ _)⟩)
  dsimp only [Pt.U, Pt.locs, Pt.cells, Pt.slots] at X3 l3 y3 z3 st3 hQ3
  subst l3 y3 z3
  obtain ⟨rfl, Nq3, hs3⟩ := hQ3
  have N3 := Fr.app N0 Nq3
  refine Comes.go st3 ?_
  show Comes p e below _ (T3.setTop (mkF m 9 #[.val (.ref sg)] [(.int (0 : Int32)), (.int (8 : Int32))]))
  refine Comes.st (fun t k => XS.ishr X3.here hx rfl (hb hby d9_9) rfl k) ?_
  show Comes p e below _ (T3.setTop (mkF m 10 #[.val (.ref sg)] [(.int ((8 : Int32) >>> ((0 : Int32) &&& 31)))]))
  rw [show ((8 : Int32) >>> ((0 : Int32) &&& 31)) = (8 : Int32) from by decide]
  show Comes p e below _ (T3.setTop (mkF m 10 #[.val (.ref sg)] [(.int (8 : Int32))]))
  exact Comes.retV X3 hx Bd.returns rfl (Or.inl ⟨rfl, Or.inl rfl, _, rfl⟩) hlk (hb hby d9_10) hs3 ⟨rfl, N3, rfl⟩ (by decide) (by decide)
def Q_ens6 (Z : State) (sb vb : Nat) (kb : ClassId) (wl : List Value) (ct : Int32) (h0 : Heap) (n0 : Nat) (v_ : Option Value) (h : Heap) (L_ : List Loc) : Prop := (v_ = none) ∧ (Fr n0 L_) ∧ (h = h0)
theorem ens6 (l : Launch) (Z : State) (a0 : Array Value) (hw : ∀ d ∈ tables_1, d.before a0 Z = true) (ws : List Jvm.Cond) (sb vb : Nat) (kb : ClassId) (wl : List Value) (ct : Int32) (h0 : Heap) (n0 : Nat) (Z0 : n0 ≤ h0.size) (G0 : Exa Z h0 sb "java/lang/StringBuilder") (G1 : Fld Z h0 sb "java/lang/AbstractStringBuilder" "value" "[B" (.ref vb)) (G2 : Fld Z h0 sb "java/lang/AbstractStringBuilder" "coder" "B" (.int (0 : Int32))) (G3 : Fld Z h0 sb "java/lang/AbstractStringBuilder" "count" "I" (.int ct)) (G4 : Arv Z h0 vb kb .byte (16 : Int32) wl (.int (0 : Int32))) :
    MetFree l (⟨"java/lang/AbstractStringBuilder", "ensureCapacityInternal", "(I)V"⟩ : MethodName) (head1 (Jvm.Cond.code (⟨"java/lang/AbstractStringBuilder", "ensureCapacityInternal", "(I)V"⟩ : MethodName) jdk_68_method_9_code 3 none :: ws) (Rm 0 0 0 0)) (fun a_ U_ => a_ = #[(.ref sb), (.int (6 : Int32))] ∧ Z.Warmed39 U_.vm ∧ U_.heap = h0) (fun _ _ _ _ _ => True) (fun _ U_ o_ V_ => ∃ v_ L_, o_ = .returned v_ ∧ Q_ens6 Z sb vb kb wl ct h0 n0 v_ V_.heap L_ ∧ FrameEnd U_ o_ V_ L_ (Rm 0 0 0 0).cells (Rm 0 0 0 0).slots) := by
  refine MetFree.of_bodySF (plainFor_of_name pn_11) hisR ?_
  intro p e s m args below meth c s₁ Bd hml0 hP hK
  obtain ⟨rfl, hZ, hh⟩ := hP
  have hx := Bd.exec
  have hby := Bd.bytes
  have hml : c.maxLocals = 3 := hml0
  have hown : s.vm.findClass "java/lang/AbstractStringBuilder" = some m.cls := findClass_of_methodNamed Bd.named
  have hnm := (name_of_methodNamed Bd.named Bd.method).1
  have hlk : meth.locks = false := Bd.notSynchronized
  have X0 : Stand p l e (Rm 0 0 0 0) s m #[(.ref sb), (.int (6 : Int32))] below meth c s₁ [] 0 0 := Stand.of_body Bd
  have e0 : s₁.heap = h0 := by rw [← hh, Bd.state]; rfl
  have N0 := Fr.nil n0
  refine Comes.out (Q := Q_ens6 Z sb vb kb wl ct h0 n0) (kc := (Rm 0 0 0 0).cells) (ks := (Rm 0 0 0 0).slots) ?_
  refine Comes.cast (ef_ens6 m sb) ?_
  have lt_sb : sb < h0.size := G0.lt
  have lt_vb : vb < h0.size := G4.lt
  show Comes p e below _ (s₁.setTop (mkF m 0 #[.val (.ref sb), .val (.int (6 : Int32)), .unset] []))
  refine Comes.st (fun t k => XS.aloadN X0.here hx rfl (hb hby d11_0) rfl rfl k) ?_
  show Comes p e below _ (s₁.setTop (mkF m 1 #[.val (.ref sb), .val (.int (6 : Int32)), .unset] [(.ref sb)]))
  obtain ⟨T1, X1, e1, st1⟩ := getF X0 hx hZ hown (host := "") (Or.inl (W hw 44)) Via.refl e0 G1 (g := (mkF m 1 #[.val (.ref sb), .val (.int (6 : Int32)), .unset] [(.ref sb)])) rfl rfl (hb hby d11_1)
  refine Comes.st st1 ?_
  show Comes p e below _ (T1.setTop (mkF m 4 #[.val (.ref sb), .val (.int (6 : Int32)), .unset] [(.ref vb)]))
  obtain ⟨cl2, Ar2, -, S2, Ng2, -, -⟩ := id G4
  refine Comes.st (fun t k => X1.arraylength hx (by rw [e1]; exact Ar2.1) (State.isArrayOf_alike hZ.alike Ar2.2.1) (g := (mkF m 4 #[.val (.ref sb), .val (.int (6 : Int32)), .unset] [(.ref vb)])) rfl rfl (hb hby d11_4) _ k) ?_
  rw [len_of S2 Ng2]
  show Comes p e below _ (T1.setTop (mkF m 5 #[.val (.ref sb), .val (.int (6 : Int32)), .unset] [(.int (16 : Int32))]))
  refine Comes.st (fun t k => XS.aloadN X1.here hx rfl (hb hby d11_5) rfl rfl k) ?_
  show Comes p e below _ (T1.setTop (mkF m 6 #[.val (.ref sb), .val (.int (6 : Int32)), .unset] [(.ref sb), (.int (16 : Int32))]))
  obtain ⟨T3, X3, e3, st3⟩ := getF X1 hx hZ hown (host := "") (Or.inl (W hw 46)) Via.refl e1 G2 (g := (mkF m 6 #[.val (.ref sb), .val (.int (6 : Int32)), .unset] [(.ref sb), (.int (16 : Int32))])) rfl rfl (hb hby d11_6)
  refine Comes.st st3 ?_
  show Comes p e below _ (T3.setTop (mkF m 9 #[.val (.ref sb), .val (.int (6 : Int32)), .unset] [(.int (0 : Int32)), (.int (16 : Int32))]))
  refine Comes.st (fun t k => XS.ishr X3.here hx rfl (hb hby d11_9) rfl k) ?_
  show Comes p e below _ (T3.setTop (mkF m 10 #[.val (.ref sb), .val (.int (6 : Int32)), .unset] [(.int ((16 : Int32) >>> ((0 : Int32) &&& 31)))]))
  rw [show ((16 : Int32) >>> ((0 : Int32) &&& 31)) = (16 : Int32) from by decide]
  show Comes p e below _ (T3.setTop (mkF m 10 #[.val (.ref sb), .val (.int (6 : Int32)), .unset] [(.int (16 : Int32))]))
  refine Comes.st (fun t k => XS.istoreN X3.here hx rfl (hb hby d11_10) rfl (l' := #[.val (.ref sb), .val (.int (6 : Int32)), .val (.int (16 : Int32))]) rfl (XS.iloadN X3.here hx rfl (hb hby d11_11) rfl (XS.iloadN X3.here hx rfl (hb hby d11_12) rfl (XS.isub X3.here hx rfl (hb hby d11_13) rfl k)))) ?_
  show Comes p e below _ (T3.setTop (mkF m 14 #[.val (.ref sb), .val (.int (6 : Int32)), .val (.int (16 : Int32))] [(.int ((6 : Int32) - (16 : Int32)))]))
  rw [show ((6 : Int32) - (16 : Int32)) = (-10 : Int32) from by decide]
  show Comes p e below _ (T3.setTop (mkF m 14 #[.val (.ref sb), .val (.int (6 : Int32)), .val (.int (16 : Int32))] [(.int (-10 : Int32))]))
  have hc14_4 : ¬ ((0 : Int32) < (-10 : Int32)) := by decide
  refine Comes.st (fun t k => XS.ifYes X3.here hx rfl (pc0 := 14) (pc' := 38) rfl (hb hby d11_14) rfl ((if0 _ _).trans (flt hc14_4).2.2.2) (by decide) (by decide) k) ?_
  show Comes p e below _ (T3.setTop (mkF m 38 #[.val (.ref sb), .val (.int (6 : Int32)), .val (.int (16 : Int32))] []))
  exact Comes.ret0 X3 hx Bd.returns hlk (hb hby d11_38) e3 ⟨rfl, N0, rfl⟩ (by decide) (by decide)
def Q_ens7 (Z : State) (sb vb : Nat) (kb : ClassId) (wl : List Value) (ct : Int32) (h0 : Heap) (n0 : Nat) (v_ : Option Value) (h : Heap) (L_ : List Loc) : Prop := (v_ = none) ∧ (Fr n0 L_) ∧ (h = h0)
theorem ens7 (l : Launch) (Z : State) (a0 : Array Value) (hw : ∀ d ∈ tables_1, d.before a0 Z = true) (ws : List Jvm.Cond) (sb vb : Nat) (kb : ClassId) (wl : List Value) (ct : Int32) (h0 : Heap) (n0 : Nat) (Z0 : n0 ≤ h0.size) (G0 : Exa Z h0 sb "java/lang/StringBuilder") (G1 : Fld Z h0 sb "java/lang/AbstractStringBuilder" "value" "[B" (.ref vb)) (G2 : Fld Z h0 sb "java/lang/AbstractStringBuilder" "coder" "B" (.int (0 : Int32))) (G3 : Fld Z h0 sb "java/lang/AbstractStringBuilder" "count" "I" (.int ct)) (G4 : Arv Z h0 vb kb .byte (16 : Int32) wl (.int (0 : Int32))) :
    MetFree l (⟨"java/lang/AbstractStringBuilder", "ensureCapacityInternal", "(I)V"⟩ : MethodName) (head1 (Jvm.Cond.code (⟨"java/lang/AbstractStringBuilder", "ensureCapacityInternal", "(I)V"⟩ : MethodName) jdk_68_method_9_code 3 none :: ws) (Rm 0 0 0 0)) (fun a_ U_ => a_ = #[(.ref sb), (.int (7 : Int32))] ∧ Z.Warmed39 U_.vm ∧ U_.heap = h0) (fun _ _ _ _ _ => True) (fun _ U_ o_ V_ => ∃ v_ L_, o_ = .returned v_ ∧ Q_ens7 Z sb vb kb wl ct h0 n0 v_ V_.heap L_ ∧ FrameEnd U_ o_ V_ L_ (Rm 0 0 0 0).cells (Rm 0 0 0 0).slots) := by
  refine MetFree.of_bodySF (plainFor_of_name pn_11) hisR ?_
  intro p e s m args below meth c s₁ Bd hml0 hP hK
  obtain ⟨rfl, hZ, hh⟩ := hP
  have hx := Bd.exec
  have hby := Bd.bytes
  have hml : c.maxLocals = 3 := hml0
  have hown : s.vm.findClass "java/lang/AbstractStringBuilder" = some m.cls := findClass_of_methodNamed Bd.named
  have hnm := (name_of_methodNamed Bd.named Bd.method).1
  have hlk : meth.locks = false := Bd.notSynchronized
  have X0 : Stand p l e (Rm 0 0 0 0) s m #[(.ref sb), (.int (7 : Int32))] below meth c s₁ [] 0 0 := Stand.of_body Bd
  have e0 : s₁.heap = h0 := by rw [← hh, Bd.state]; rfl
  have N0 := Fr.nil n0
  refine Comes.out (Q := Q_ens7 Z sb vb kb wl ct h0 n0) (kc := (Rm 0 0 0 0).cells) (ks := (Rm 0 0 0 0).slots) ?_
  refine Comes.cast (ef_ens7 m sb) ?_
  have lt_sb : sb < h0.size := G0.lt
  have lt_vb : vb < h0.size := G4.lt
  show Comes p e below _ (s₁.setTop (mkF m 0 #[.val (.ref sb), .val (.int (7 : Int32)), .unset] []))
  refine Comes.st (fun t k => XS.aloadN X0.here hx rfl (hb hby d11_0) rfl rfl k) ?_
  show Comes p e below _ (s₁.setTop (mkF m 1 #[.val (.ref sb), .val (.int (7 : Int32)), .unset] [(.ref sb)]))
  obtain ⟨T1, X1, e1, st1⟩ := getF X0 hx hZ hown (host := "") (Or.inl (W hw 44)) Via.refl e0 G1 (g := (mkF m 1 #[.val (.ref sb), .val (.int (7 : Int32)), .unset] [(.ref sb)])) rfl rfl (hb hby d11_1)
  refine Comes.st st1 ?_
  show Comes p e below _ (T1.setTop (mkF m 4 #[.val (.ref sb), .val (.int (7 : Int32)), .unset] [(.ref vb)]))
  obtain ⟨cl2, Ar2, -, S2, Ng2, -, -⟩ := id G4
  refine Comes.st (fun t k => X1.arraylength hx (by rw [e1]; exact Ar2.1) (State.isArrayOf_alike hZ.alike Ar2.2.1) (g := (mkF m 4 #[.val (.ref sb), .val (.int (7 : Int32)), .unset] [(.ref vb)])) rfl rfl (hb hby d11_4) _ k) ?_
  rw [len_of S2 Ng2]
  show Comes p e below _ (T1.setTop (mkF m 5 #[.val (.ref sb), .val (.int (7 : Int32)), .unset] [(.int (16 : Int32))]))
  refine Comes.st (fun t k => XS.aloadN X1.here hx rfl (hb hby d11_5) rfl rfl k) ?_
  show Comes p e below _ (T1.setTop (mkF m 6 #[.val (.ref sb), .val (.int (7 : Int32)), .unset] [(.ref sb), (.int (16 : Int32))]))
  obtain ⟨T3, X3, e3, st3⟩ := getF X1 hx hZ hown (host := "") (Or.inl (W hw 46)) Via.refl e1 G2 (g := (mkF m 6 #[.val (.ref sb), .val (.int (7 : Int32)), .unset] [(.ref sb), (.int (16 : Int32))])) rfl rfl (hb hby d11_6)
  refine Comes.st st3 ?_
  show Comes p e below _ (T3.setTop (mkF m 9 #[.val (.ref sb), .val (.int (7 : Int32)), .unset] [(.int (0 : Int32)), (.int (16 : Int32))]))
  refine Comes.st (fun t k => XS.ishr X3.here hx rfl (hb hby d11_9) rfl k) ?_
  show Comes p e below _ (T3.setTop (mkF m 10 #[.val (.ref sb), .val (.int (7 : Int32)), .unset] [(.int ((16 : Int32) >>> ((0 : Int32) &&& 31)))]))
  rw [show ((16 : Int32) >>> ((0 : Int32) &&& 31)) = (16 : Int32) from by decide]
  show Comes p e below _ (T3.setTop (mkF m 10 #[.val (.ref sb), .val (.int (7 : Int32)), .unset] [(.int (16 : Int32))]))
  refine Comes.st (fun t k => XS.istoreN X3.here hx rfl (hb hby d11_10) rfl (l' := #[.val (.ref sb), .val (.int (7 : Int32)), .val (.int (16 : Int32))]) rfl (XS.iloadN X3.here hx rfl (hb hby d11_11) rfl (XS.iloadN X3.here hx rfl (hb hby d11_12) rfl (XS.isub X3.here hx rfl (hb hby d11_13) rfl k)))) ?_
  show Comes p e below _ (T3.setTop (mkF m 14 #[.val (.ref sb), .val (.int (7 : Int32)), .val (.int (16 : Int32))] [(.int ((7 : Int32) - (16 : Int32)))]))
  rw [show ((7 : Int32) - (16 : Int32)) = (-9 : Int32) from by decide]
  show Comes p e below _ (T3.setTop (mkF m 14 #[.val (.ref sb), .val (.int (7 : Int32)), .val (.int (16 : Int32))] [(.int (-9 : Int32))]))
  have hc14_4 : ¬ ((0 : Int32) < (-9 : Int32)) := by decide
  refine Comes.st (fun t k => XS.ifYes X3.here hx rfl (pc0 := 14) (pc' := 38) rfl (hb hby d11_14) rfl ((if0 _ _).trans (flt hc14_4).2.2.2) (by decide) (by decide) k) ?_
  show Comes p e below _ (T3.setTop (mkF m 38 #[.val (.ref sb), .val (.int (7 : Int32)), .val (.int (16 : Int32))] []))
  exact Comes.ret0 X3 hx Bd.returns hlk (hb hby d11_38) e3 ⟨rfl, N0, rfl⟩ (by decide) (by decide)
def Q_ens8 (Z : State) (sb vb : Nat) (kb : ClassId) (wl : List Value) (ct : Int32) (h0 : Heap) (n0 : Nat) (v_ : Option Value) (h : Heap) (L_ : List Loc) : Prop := (v_ = none) ∧ (Fr n0 L_) ∧ (h = h0)
theorem ens8 (l : Launch) (Z : State) (a0 : Array Value) (hw : ∀ d ∈ tables_1, d.before a0 Z = true) (ws : List Jvm.Cond) (sb vb : Nat) (kb : ClassId) (wl : List Value) (ct : Int32) (h0 : Heap) (n0 : Nat) (Z0 : n0 ≤ h0.size) (G0 : Exa Z h0 sb "java/lang/StringBuilder") (G1 : Fld Z h0 sb "java/lang/AbstractStringBuilder" "value" "[B" (.ref vb)) (G2 : Fld Z h0 sb "java/lang/AbstractStringBuilder" "coder" "B" (.int (0 : Int32))) (G3 : Fld Z h0 sb "java/lang/AbstractStringBuilder" "count" "I" (.int ct)) (G4 : Arv Z h0 vb kb .byte (16 : Int32) wl (.int (0 : Int32))) :
    MetFree l (⟨"java/lang/AbstractStringBuilder", "ensureCapacityInternal", "(I)V"⟩ : MethodName) (head1 (Jvm.Cond.code (⟨"java/lang/AbstractStringBuilder", "ensureCapacityInternal", "(I)V"⟩ : MethodName) jdk_68_method_9_code 3 none :: ws) (Rm 0 0 0 0)) (fun a_ U_ => a_ = #[(.ref sb), (.int (8 : Int32))] ∧ Z.Warmed39 U_.vm ∧ U_.heap = h0) (fun _ _ _ _ _ => True) (fun _ U_ o_ V_ => ∃ v_ L_, o_ = .returned v_ ∧ Q_ens8 Z sb vb kb wl ct h0 n0 v_ V_.heap L_ ∧ FrameEnd U_ o_ V_ L_ (Rm 0 0 0 0).cells (Rm 0 0 0 0).slots) := by
  refine MetFree.of_bodySF (plainFor_of_name pn_11) hisR ?_
  intro p e s m args below meth c s₁ Bd hml0 hP hK
  obtain ⟨rfl, hZ, hh⟩ := hP
  have hx := Bd.exec
  have hby := Bd.bytes
  have hml : c.maxLocals = 3 := hml0
  have hown : s.vm.findClass "java/lang/AbstractStringBuilder" = some m.cls := findClass_of_methodNamed Bd.named
  have hnm := (name_of_methodNamed Bd.named Bd.method).1
  have hlk : meth.locks = false := Bd.notSynchronized
  have X0 : Stand p l e (Rm 0 0 0 0) s m #[(.ref sb), (.int (8 : Int32))] below meth c s₁ [] 0 0 := Stand.of_body Bd
  have e0 : s₁.heap = h0 := by rw [← hh, Bd.state]; rfl
  have N0 := Fr.nil n0
  refine Comes.out (Q := Q_ens8 Z sb vb kb wl ct h0 n0) (kc := (Rm 0 0 0 0).cells) (ks := (Rm 0 0 0 0).slots) ?_
  refine Comes.cast (ef_ens8 m sb) ?_
  have lt_sb : sb < h0.size := G0.lt
  have lt_vb : vb < h0.size := G4.lt
  show Comes p e below _ (s₁.setTop (mkF m 0 #[.val (.ref sb), .val (.int (8 : Int32)), .unset] []))
  refine Comes.st (fun t k => XS.aloadN X0.here hx rfl (hb hby d11_0) rfl rfl k) ?_
  show Comes p e below _ (s₁.setTop (mkF m 1 #[.val (.ref sb), .val (.int (8 : Int32)), .unset] [(.ref sb)]))
  obtain ⟨T1, X1, e1, st1⟩ := getF X0 hx hZ hown (host := "") (Or.inl (W hw 44)) Via.refl e0 G1 (g := (mkF m 1 #[.val (.ref sb), .val (.int (8 : Int32)), .unset] [(.ref sb)])) rfl rfl (hb hby d11_1)
  refine Comes.st st1 ?_
  show Comes p e below _ (T1.setTop (mkF m 4 #[.val (.ref sb), .val (.int (8 : Int32)), .unset] [(.ref vb)]))
  obtain ⟨cl2, Ar2, -, S2, Ng2, -, -⟩ := id G4
  refine Comes.st (fun t k => X1.arraylength hx (by rw [e1]; exact Ar2.1) (State.isArrayOf_alike hZ.alike Ar2.2.1) (g := (mkF m 4 #[.val (.ref sb), .val (.int (8 : Int32)), .unset] [(.ref vb)])) rfl rfl (hb hby d11_4) _ k) ?_
  rw [len_of S2 Ng2]
  show Comes p e below _ (T1.setTop (mkF m 5 #[.val (.ref sb), .val (.int (8 : Int32)), .unset] [(.int (16 : Int32))]))
  refine Comes.st (fun t k => XS.aloadN X1.here hx rfl (hb hby d11_5) rfl rfl k) ?_
  show Comes p e below _ (T1.setTop (mkF m 6 #[.val (.ref sb), .val (.int (8 : Int32)), .unset] [(.ref sb), (.int (16 : Int32))]))
  obtain ⟨T3, X3, e3, st3⟩ := getF X1 hx hZ hown (host := "") (Or.inl (W hw 46)) Via.refl e1 G2 (g := (mkF m 6 #[.val (.ref sb), .val (.int (8 : Int32)), .unset] [(.ref sb), (.int (16 : Int32))])) rfl rfl (hb hby d11_6)
  refine Comes.st st3 ?_
  show Comes p e below _ (T3.setTop (mkF m 9 #[.val (.ref sb), .val (.int (8 : Int32)), .unset] [(.int (0 : Int32)), (.int (16 : Int32))]))
  refine Comes.st (fun t k => XS.ishr X3.here hx rfl (hb hby d11_9) rfl k) ?_
  show Comes p e below _ (T3.setTop (mkF m 10 #[.val (.ref sb), .val (.int (8 : Int32)), .unset] [(.int ((16 : Int32) >>> ((0 : Int32) &&& 31)))]))
  rw [show ((16 : Int32) >>> ((0 : Int32) &&& 31)) = (16 : Int32) from by decide]
  show Comes p e below _ (T3.setTop (mkF m 10 #[.val (.ref sb), .val (.int (8 : Int32)), .unset] [(.int (16 : Int32))]))
  refine Comes.st (fun t k => XS.istoreN X3.here hx rfl (hb hby d11_10) rfl (l' := #[.val (.ref sb), .val (.int (8 : Int32)), .val (.int (16 : Int32))]) rfl (XS.iloadN X3.here hx rfl (hb hby d11_11) rfl (XS.iloadN X3.here hx rfl (hb hby d11_12) rfl (XS.isub X3.here hx rfl (hb hby d11_13) rfl k)))) ?_
  show Comes p e below _ (T3.setTop (mkF m 14 #[.val (.ref sb), .val (.int (8 : Int32)), .val (.int (16 : Int32))] [(.int ((8 : Int32) - (16 : Int32)))]))
  rw [show ((8 : Int32) - (16 : Int32)) = (-8 : Int32) from by decide]
  show Comes p e below _ (T3.setTop (mkF m 14 #[.val (.ref sb), .val (.int (8 : Int32)), .val (.int (16 : Int32))] [(.int (-8 : Int32))]))
  have hc14_4 : ¬ ((0 : Int32) < (-8 : Int32)) := by decide
  refine Comes.st (fun t k => XS.ifYes X3.here hx rfl (pc0 := 14) (pc' := 38) rfl (hb hby d11_14) rfl ((if0 _ _).trans (flt hc14_4).2.2.2) (by decide) (by decide) k) ?_
  show Comes p e below _ (T3.setTop (mkF m 38 #[.val (.ref sb), .val (.int (8 : Int32)), .val (.int (16 : Int32))] []))
  exact Comes.ret0 X3 hx Bd.returns hlk (hb hby d11_38) e3 ⟨rfl, N0, rfl⟩ (by decide) (by decide)
def Q_ens14 (Z : State) (sb vb : Nat) (kb : ClassId) (wl : List Value) (ct : Int32) (h0 : Heap) (n0 : Nat) (v_ : Option Value) (h : Heap) (L_ : List Loc) : Prop := (v_ = none) ∧ (Fr n0 L_) ∧ (h = h0)
theorem ens14 (l : Launch) (Z : State) (a0 : Array Value) (hw : ∀ d ∈ tables_1, d.before a0 Z = true) (ws : List Jvm.Cond) (sb vb : Nat) (kb : ClassId) (wl : List Value) (ct : Int32) (h0 : Heap) (n0 : Nat) (Z0 : n0 ≤ h0.size) (G0 : Exa Z h0 sb "java/lang/StringBuilder") (G1 : Fld Z h0 sb "java/lang/AbstractStringBuilder" "value" "[B" (.ref vb)) (G2 : Fld Z h0 sb "java/lang/AbstractStringBuilder" "coder" "B" (.int (0 : Int32))) (G3 : Fld Z h0 sb "java/lang/AbstractStringBuilder" "count" "I" (.int ct)) (G4 : Arv Z h0 vb kb .byte (16 : Int32) wl (.int (0 : Int32))) :
    MetFree l (⟨"java/lang/AbstractStringBuilder", "ensureCapacityInternal", "(I)V"⟩ : MethodName) (head1 (Jvm.Cond.code (⟨"java/lang/AbstractStringBuilder", "ensureCapacityInternal", "(I)V"⟩ : MethodName) jdk_68_method_9_code 3 none :: ws) (Rm 0 0 0 0)) (fun a_ U_ => a_ = #[(.ref sb), (.int (14 : Int32))] ∧ Z.Warmed39 U_.vm ∧ U_.heap = h0) (fun _ _ _ _ _ => True) (fun _ U_ o_ V_ => ∃ v_ L_, o_ = .returned v_ ∧ Q_ens14 Z sb vb kb wl ct h0 n0 v_ V_.heap L_ ∧ FrameEnd U_ o_ V_ L_ (Rm 0 0 0 0).cells (Rm 0 0 0 0).slots) := by
  refine MetFree.of_bodySF (plainFor_of_name pn_11) hisR ?_
  intro p e s m args below meth c s₁ Bd hml0 hP hK
  obtain ⟨rfl, hZ, hh⟩ := hP
  have hx := Bd.exec
  have hby := Bd.bytes
  have hml : c.maxLocals = 3 := hml0
  have hown : s.vm.findClass "java/lang/AbstractStringBuilder" = some m.cls := findClass_of_methodNamed Bd.named
  have hnm := (name_of_methodNamed Bd.named Bd.method).1
  have hlk : meth.locks = false := Bd.notSynchronized
  have X0 : Stand p l e (Rm 0 0 0 0) s m #[(.ref sb), (.int (14 : Int32))] below meth c s₁ [] 0 0 := Stand.of_body Bd
  have e0 : s₁.heap = h0 := by rw [← hh, Bd.state]; rfl
  have N0 := Fr.nil n0
  refine Comes.out (Q := Q_ens14 Z sb vb kb wl ct h0 n0) (kc := (Rm 0 0 0 0).cells) (ks := (Rm 0 0 0 0).slots) ?_
  refine Comes.cast (ef_ens14 m sb) ?_
  have lt_sb : sb < h0.size := G0.lt
  have lt_vb : vb < h0.size := G4.lt
  show Comes p e below _ (s₁.setTop (mkF m 0 #[.val (.ref sb), .val (.int (14 : Int32)), .unset] []))
  refine Comes.st (fun t k => XS.aloadN X0.here hx rfl (hb hby d11_0) rfl rfl k) ?_
  show Comes p e below _ (s₁.setTop (mkF m 1 #[.val (.ref sb), .val (.int (14 : Int32)), .unset] [(.ref sb)]))
  obtain ⟨T1, X1, e1, st1⟩ := getF X0 hx hZ hown (host := "") (Or.inl (W hw 44)) Via.refl e0 G1 (g := (mkF m 1 #[.val (.ref sb), .val (.int (14 : Int32)), .unset] [(.ref sb)])) rfl rfl (hb hby d11_1)
  refine Comes.st st1 ?_
  show Comes p e below _ (T1.setTop (mkF m 4 #[.val (.ref sb), .val (.int (14 : Int32)), .unset] [(.ref vb)]))
  obtain ⟨cl2, Ar2, -, S2, Ng2, -, -⟩ := id G4
  refine Comes.st (fun t k => X1.arraylength hx (by rw [e1]; exact Ar2.1) (State.isArrayOf_alike hZ.alike Ar2.2.1) (g := (mkF m 4 #[.val (.ref sb), .val (.int (14 : Int32)), .unset] [(.ref vb)])) rfl rfl (hb hby d11_4) _ k) ?_
  rw [len_of S2 Ng2]
  show Comes p e below _ (T1.setTop (mkF m 5 #[.val (.ref sb), .val (.int (14 : Int32)), .unset] [(.int (16 : Int32))]))
  refine Comes.st (fun t k => XS.aloadN X1.here hx rfl (hb hby d11_5) rfl rfl k) ?_
  show Comes p e below _ (T1.setTop (mkF m 6 #[.val (.ref sb), .val (.int (14 : Int32)), .unset] [(.ref sb), (.int (16 : Int32))]))
  obtain ⟨T3, X3, e3, st3⟩ := getF X1 hx hZ hown (host := "") (Or.inl (W hw 46)) Via.refl e1 G2 (g := (mkF m 6 #[.val (.ref sb), .val (.int (14 : Int32)), .unset] [(.ref sb), (.int (16 : Int32))])) rfl rfl (hb hby d11_6)
  refine Comes.st st3 ?_
  show Comes p e below _ (T3.setTop (mkF m 9 #[.val (.ref sb), .val (.int (14 : Int32)), .unset] [(.int (0 : Int32)), (.int (16 : Int32))]))
  refine Comes.st (fun t k => XS.ishr X3.here hx rfl (hb hby d11_9) rfl k) ?_
  show Comes p e below _ (T3.setTop (mkF m 10 #[.val (.ref sb), .val (.int (14 : Int32)), .unset] [(.int ((16 : Int32) >>> ((0 : Int32) &&& 31)))]))
  rw [show ((16 : Int32) >>> ((0 : Int32) &&& 31)) = (16 : Int32) from by decide]
  show Comes p e below _ (T3.setTop (mkF m 10 #[.val (.ref sb), .val (.int (14 : Int32)), .unset] [(.int (16 : Int32))]))
  refine Comes.st (fun t k => XS.istoreN X3.here hx rfl (hb hby d11_10) rfl (l' := #[.val (.ref sb), .val (.int (14 : Int32)), .val (.int (16 : Int32))]) rfl (XS.iloadN X3.here hx rfl (hb hby d11_11) rfl (XS.iloadN X3.here hx rfl (hb hby d11_12) rfl (XS.isub X3.here hx rfl (hb hby d11_13) rfl k)))) ?_
  show Comes p e below _ (T3.setTop (mkF m 14 #[.val (.ref sb), .val (.int (14 : Int32)), .val (.int (16 : Int32))] [(.int ((14 : Int32) - (16 : Int32)))]))
  rw [show ((14 : Int32) - (16 : Int32)) = (-2 : Int32) from by decide]
  show Comes p e below _ (T3.setTop (mkF m 14 #[.val (.ref sb), .val (.int (14 : Int32)), .val (.int (16 : Int32))] [(.int (-2 : Int32))]))
  have hc14_4 : ¬ ((0 : Int32) < (-2 : Int32)) := by decide
  refine Comes.st (fun t k => XS.ifYes X3.here hx rfl (pc0 := 14) (pc' := 38) rfl (hb hby d11_14) rfl ((if0 _ _).trans (flt hc14_4).2.2.2) (by decide) (by decide) k) ?_
  show Comes p e below _ (T3.setTop (mkF m 38 #[.val (.ref sb), .val (.int (14 : Int32)), .val (.int (16 : Int32))] []))
  exact Comes.ret0 X3 hx Bd.returns hlk (hb hby d11_38) e3 ⟨rfl, N0, rfl⟩ (by decide) (by decide)
def Q_ens15 (Z : State) (sb vb : Nat) (kb : ClassId) (wl : List Value) (ct : Int32) (h0 : Heap) (n0 : Nat) (v_ : Option Value) (h : Heap) (L_ : List Loc) : Prop := (v_ = none) ∧ (Fr n0 L_) ∧ (h = h0)
theorem ens15 (l : Launch) (Z : State) (a0 : Array Value) (hw : ∀ d ∈ tables_1, d.before a0 Z = true) (ws : List Jvm.Cond) (sb vb : Nat) (kb : ClassId) (wl : List Value) (ct : Int32) (h0 : Heap) (n0 : Nat) (Z0 : n0 ≤ h0.size) (G0 : Exa Z h0 sb "java/lang/StringBuilder") (G1 : Fld Z h0 sb "java/lang/AbstractStringBuilder" "value" "[B" (.ref vb)) (G2 : Fld Z h0 sb "java/lang/AbstractStringBuilder" "coder" "B" (.int (0 : Int32))) (G3 : Fld Z h0 sb "java/lang/AbstractStringBuilder" "count" "I" (.int ct)) (G4 : Arv Z h0 vb kb .byte (16 : Int32) wl (.int (0 : Int32))) :
    MetFree l (⟨"java/lang/AbstractStringBuilder", "ensureCapacityInternal", "(I)V"⟩ : MethodName) (head1 (Jvm.Cond.code (⟨"java/lang/AbstractStringBuilder", "ensureCapacityInternal", "(I)V"⟩ : MethodName) jdk_68_method_9_code 3 none :: ws) (Rm 0 0 0 0)) (fun a_ U_ => a_ = #[(.ref sb), (.int (15 : Int32))] ∧ Z.Warmed39 U_.vm ∧ U_.heap = h0) (fun _ _ _ _ _ => True) (fun _ U_ o_ V_ => ∃ v_ L_, o_ = .returned v_ ∧ Q_ens15 Z sb vb kb wl ct h0 n0 v_ V_.heap L_ ∧ FrameEnd U_ o_ V_ L_ (Rm 0 0 0 0).cells (Rm 0 0 0 0).slots) := by
  refine MetFree.of_bodySF (plainFor_of_name pn_11) hisR ?_
  intro p e s m args below meth c s₁ Bd hml0 hP hK
  obtain ⟨rfl, hZ, hh⟩ := hP
  have hx := Bd.exec
  have hby := Bd.bytes
  have hml : c.maxLocals = 3 := hml0
  have hown : s.vm.findClass "java/lang/AbstractStringBuilder" = some m.cls := findClass_of_methodNamed Bd.named
  have hnm := (name_of_methodNamed Bd.named Bd.method).1
  have hlk : meth.locks = false := Bd.notSynchronized
  have X0 : Stand p l e (Rm 0 0 0 0) s m #[(.ref sb), (.int (15 : Int32))] below meth c s₁ [] 0 0 := Stand.of_body Bd
  have e0 : s₁.heap = h0 := by rw [← hh, Bd.state]; rfl
  have N0 := Fr.nil n0
  refine Comes.out (Q := Q_ens15 Z sb vb kb wl ct h0 n0) (kc := (Rm 0 0 0 0).cells) (ks := (Rm 0 0 0 0).slots) ?_
  refine Comes.cast (ef_ens15 m sb) ?_
  have lt_sb : sb < h0.size := G0.lt
  have lt_vb : vb < h0.size := G4.lt
  show Comes p e below _ (s₁.setTop (mkF m 0 #[.val (.ref sb), .val (.int (15 : Int32)), .unset] []))
  refine Comes.st (fun t k => XS.aloadN X0.here hx rfl (hb hby d11_0) rfl rfl k) ?_
  show Comes p e below _ (s₁.setTop (mkF m 1 #[.val (.ref sb), .val (.int (15 : Int32)), .unset] [(.ref sb)]))
  obtain ⟨T1, X1, e1, st1⟩ := getF X0 hx hZ hown (host := "") (Or.inl (W hw 44)) Via.refl e0 G1 (g := (mkF m 1 #[.val (.ref sb), .val (.int (15 : Int32)), .unset] [(.ref sb)])) rfl rfl (hb hby d11_1)
  refine Comes.st st1 ?_
  show Comes p e below _ (T1.setTop (mkF m 4 #[.val (.ref sb), .val (.int (15 : Int32)), .unset] [(.ref vb)]))
  obtain ⟨cl2, Ar2, -, S2, Ng2, -, -⟩ := id G4
  refine Comes.st (fun t k => X1.arraylength hx (by rw [e1]; exact Ar2.1) (State.isArrayOf_alike hZ.alike Ar2.2.1) (g := (mkF m 4 #[.val (.ref sb), .val (.int (15 : Int32)), .unset] [(.ref vb)])) rfl rfl (hb hby d11_4) _ k) ?_
  rw [len_of S2 Ng2]
  show Comes p e below _ (T1.setTop (mkF m 5 #[.val (.ref sb), .val (.int (15 : Int32)), .unset] [(.int (16 : Int32))]))
  refine Comes.st (fun t k => XS.aloadN X1.here hx rfl (hb hby d11_5) rfl rfl k) ?_
  show Comes p e below _ (T1.setTop (mkF m 6 #[.val (.ref sb), .val (.int (15 : Int32)), .unset] [(.ref sb), (.int (16 : Int32))]))
  obtain ⟨T3, X3, e3, st3⟩ := getF X1 hx hZ hown (host := "") (Or.inl (W hw 46)) Via.refl e1 G2 (g := (mkF m 6 #[.val (.ref sb), .val (.int (15 : Int32)), .unset] [(.ref sb), (.int (16 : Int32))])) rfl rfl (hb hby d11_6)
  refine Comes.st st3 ?_
  show Comes p e below _ (T3.setTop (mkF m 9 #[.val (.ref sb), .val (.int (15 : Int32)), .unset] [(.int (0 : Int32)), (.int (16 : Int32))]))
  refine Comes.st (fun t k => XS.ishr X3.here hx rfl (hb hby d11_9) rfl k) ?_
  show Comes p e below _ (T3.setTop (mkF m 10 #[.val (.ref sb), .val (.int (15 : Int32)), .unset] [(.int ((16 : Int32) >>> ((0 : Int32) &&& 31)))]))
  rw [show ((16 : Int32) >>> ((0 : Int32) &&& 31)) = (16 : Int32) from by decide]
  show Comes p e below _ (T3.setTop (mkF m 10 #[.val (.ref sb), .val (.int (15 : Int32)), .unset] [(.int (16 : Int32))]))
  refine Comes.st (fun t k => XS.istoreN X3.here hx rfl (hb hby d11_10) rfl (l' := #[.val (.ref sb), .val (.int (15 : Int32)), .val (.int (16 : Int32))]) rfl (XS.iloadN X3.here hx rfl (hb hby d11_11) rfl (XS.iloadN X3.here hx rfl (hb hby d11_12) rfl (XS.isub X3.here hx rfl (hb hby d11_13) rfl k)))) ?_
  show Comes p e below _ (T3.setTop (mkF m 14 #[.val (.ref sb), .val (.int (15 : Int32)), .val (.int (16 : Int32))] [(.int ((15 : Int32) - (16 : Int32)))]))
  rw [show ((15 : Int32) - (16 : Int32)) = (-1 : Int32) from by decide]
  show Comes p e below _ (T3.setTop (mkF m 14 #[.val (.ref sb), .val (.int (15 : Int32)), .val (.int (16 : Int32))] [(.int (-1 : Int32))]))
  have hc14_4 : ¬ ((0 : Int32) < (-1 : Int32)) := by decide
  refine Comes.st (fun t k => XS.ifYes X3.here hx rfl (pc0 := 14) (pc' := 38) rfl (hb hby d11_14) rfl ((if0 _ _).trans (flt hc14_4).2.2.2) (by decide) (by decide) k) ?_
  show Comes p e below _ (T3.setTop (mkF m 38 #[.val (.ref sb), .val (.int (15 : Int32)), .val (.int (16 : Int32))] []))
  exact Comes.ret0 X3 hx Bd.returns hlk (hb hby d11_38) e3 ⟨rfl, N0, rfl⟩ (by decide) (by decide)
def Q_ens16 (Z : State) (sb vb : Nat) (kb : ClassId) (wl : List Value) (ct : Int32) (h0 : Heap) (n0 : Nat) (v_ : Option Value) (h : Heap) (L_ : List Loc) : Prop := (v_ = none) ∧ (Fr n0 L_) ∧ (h = h0)
theorem ens16 (l : Launch) (Z : State) (a0 : Array Value) (hw : ∀ d ∈ tables_1, d.before a0 Z = true) (ws : List Jvm.Cond) (sb vb : Nat) (kb : ClassId) (wl : List Value) (ct : Int32) (h0 : Heap) (n0 : Nat) (Z0 : n0 ≤ h0.size) (G0 : Exa Z h0 sb "java/lang/StringBuilder") (G1 : Fld Z h0 sb "java/lang/AbstractStringBuilder" "value" "[B" (.ref vb)) (G2 : Fld Z h0 sb "java/lang/AbstractStringBuilder" "coder" "B" (.int (0 : Int32))) (G3 : Fld Z h0 sb "java/lang/AbstractStringBuilder" "count" "I" (.int ct)) (G4 : Arv Z h0 vb kb .byte (16 : Int32) wl (.int (0 : Int32))) :
    MetFree l (⟨"java/lang/AbstractStringBuilder", "ensureCapacityInternal", "(I)V"⟩ : MethodName) (head1 (Jvm.Cond.code (⟨"java/lang/AbstractStringBuilder", "ensureCapacityInternal", "(I)V"⟩ : MethodName) jdk_68_method_9_code 3 none :: ws) (Rm 0 0 0 0)) (fun a_ U_ => a_ = #[(.ref sb), (.int (16 : Int32))] ∧ Z.Warmed39 U_.vm ∧ U_.heap = h0) (fun _ _ _ _ _ => True) (fun _ U_ o_ V_ => ∃ v_ L_, o_ = .returned v_ ∧ Q_ens16 Z sb vb kb wl ct h0 n0 v_ V_.heap L_ ∧ FrameEnd U_ o_ V_ L_ (Rm 0 0 0 0).cells (Rm 0 0 0 0).slots) := by
  refine MetFree.of_bodySF (plainFor_of_name pn_11) hisR ?_
  intro p e s m args below meth c s₁ Bd hml0 hP hK
  obtain ⟨rfl, hZ, hh⟩ := hP
  have hx := Bd.exec
  have hby := Bd.bytes
  have hml : c.maxLocals = 3 := hml0
  have hown : s.vm.findClass "java/lang/AbstractStringBuilder" = some m.cls := findClass_of_methodNamed Bd.named
  have hnm := (name_of_methodNamed Bd.named Bd.method).1
  have hlk : meth.locks = false := Bd.notSynchronized
  have X0 : Stand p l e (Rm 0 0 0 0) s m #[(.ref sb), (.int (16 : Int32))] below meth c s₁ [] 0 0 := Stand.of_body Bd
  have e0 : s₁.heap = h0 := by rw [← hh, Bd.state]; rfl
  have N0 := Fr.nil n0
  refine Comes.out (Q := Q_ens16 Z sb vb kb wl ct h0 n0) (kc := (Rm 0 0 0 0).cells) (ks := (Rm 0 0 0 0).slots) ?_
  refine Comes.cast (ef_ens16 m sb) ?_
  have lt_sb : sb < h0.size := G0.lt
  have lt_vb : vb < h0.size := G4.lt
  show Comes p e below _ (s₁.setTop (mkF m 0 #[.val (.ref sb), .val (.int (16 : Int32)), .unset] []))
  refine Comes.st (fun t k => XS.aloadN X0.here hx rfl (hb hby d11_0) rfl rfl k) ?_
  show Comes p e below _ (s₁.setTop (mkF m 1 #[.val (.ref sb), .val (.int (16 : Int32)), .unset] [(.ref sb)]))
  obtain ⟨T1, X1, e1, st1⟩ := getF X0 hx hZ hown (host := "") (Or.inl (W hw 44)) Via.refl e0 G1 (g := (mkF m 1 #[.val (.ref sb), .val (.int (16 : Int32)), .unset] [(.ref sb)])) rfl rfl (hb hby d11_1)
  refine Comes.st st1 ?_
  show Comes p e below _ (T1.setTop (mkF m 4 #[.val (.ref sb), .val (.int (16 : Int32)), .unset] [(.ref vb)]))
  obtain ⟨cl2, Ar2, -, S2, Ng2, -, -⟩ := id G4
  refine Comes.st (fun t k => X1.arraylength hx (by rw [e1]; exact Ar2.1) (State.isArrayOf_alike hZ.alike Ar2.2.1) (g := (mkF m 4 #[.val (.ref sb), .val (.int (16 : Int32)), .unset] [(.ref vb)])) rfl rfl (hb hby d11_4) _ k) ?_
  rw [len_of S2 Ng2]
  show Comes p e below _ (T1.setTop (mkF m 5 #[.val (.ref sb), .val (.int (16 : Int32)), .unset] [(.int (16 : Int32))]))
  refine Comes.st (fun t k => XS.aloadN X1.here hx rfl (hb hby d11_5) rfl rfl k) ?_
  show Comes p e below _ (T1.setTop (mkF m 6 #[.val (.ref sb), .val (.int (16 : Int32)), .unset] [(.ref sb), (.int (16 : Int32))]))
  obtain ⟨T3, X3, e3, st3⟩ := getF X1 hx hZ hown (host := "") (Or.inl (W hw 46)) Via.refl e1 G2 (g := (mkF m 6 #[.val (.ref sb), .val (.int (16 : Int32)), .unset] [(.ref sb), (.int (16 : Int32))])) rfl rfl (hb hby d11_6)
  refine Comes.st st3 ?_
  show Comes p e below _ (T3.setTop (mkF m 9 #[.val (.ref sb), .val (.int (16 : Int32)), .unset] [(.int (0 : Int32)), (.int (16 : Int32))]))
  refine Comes.st (fun t k => XS.ishr X3.here hx rfl (hb hby d11_9) rfl k) ?_
  show Comes p e below _ (T3.setTop (mkF m 10 #[.val (.ref sb), .val (.int (16 : Int32)), .unset] [(.int ((16 : Int32) >>> ((0 : Int32) &&& 31)))]))
  rw [show ((16 : Int32) >>> ((0 : Int32) &&& 31)) = (16 : Int32) from by decide]
  show Comes p e below _ (T3.setTop (mkF m 10 #[.val (.ref sb), .val (.int (16 : Int32)), .unset] [(.int (16 : Int32))]))
  refine Comes.st (fun t k => XS.istoreN X3.here hx rfl (hb hby d11_10) rfl (l' := #[.val (.ref sb), .val (.int (16 : Int32)), .val (.int (16 : Int32))]) rfl (XS.iloadN X3.here hx rfl (hb hby d11_11) rfl (XS.iloadN X3.here hx rfl (hb hby d11_12) rfl (XS.isub X3.here hx rfl (hb hby d11_13) rfl k)))) ?_
  show Comes p e below _ (T3.setTop (mkF m 14 #[.val (.ref sb), .val (.int (16 : Int32)), .val (.int (16 : Int32))] [(.int ((16 : Int32) - (16 : Int32)))]))
  rw [show ((16 : Int32) - (16 : Int32)) = (0 : Int32) from by decide]
  show Comes p e below _ (T3.setTop (mkF m 14 #[.val (.ref sb), .val (.int (16 : Int32)), .val (.int (16 : Int32))] [(.int (0 : Int32))]))
  have hc14_4 : ¬ ((0 : Int32) < (0 : Int32)) := by decide
  refine Comes.st (fun t k => XS.ifYes X3.here hx rfl (pc0 := 14) (pc' := 38) rfl (hb hby d11_14) rfl ((if0 _ _).trans (flt hc14_4).2.2.2) (by decide) (by decide) k) ?_
  show Comes p e below _ (T3.setTop (mkF m 38 #[.val (.ref sb), .val (.int (16 : Int32)), .val (.int (16 : Int32))] []))
  exact Comes.ret0 X3 hx Bd.returns hlk (hb hby d11_38) e3 ⟨rfl, N0, rfl⟩ (by decide) (by decide)
def Q_rm13 (Z : State) (sb sg : Nat) (cs : Int32) (h0 : Heap) (n0 : Nat) (v_ : Option Value) (h : Heap) (L_ : List Loc) : Prop := (v_ = none) ∧ (Fr n0 L_) ∧ (h = h0)
theorem rm13 (l : Launch) (Z : State) (a0 : Array Value) (hw : ∀ d ∈ tables_1, d.before a0 Z = true) (ws : List Jvm.Cond) (sb sg : Nat) (cs : Int32) (h0 : Heap) (n0 : Nat) (Z0 : n0 ≤ h0.size) (G0 : Exa Z h0 sb "java/lang/StringBuilder") (G1 : Fld Z h0 sb "java/lang/AbstractStringBuilder" "coder" "B" (.int (0 : Int32))) (G2 : Exa Z h0 sg "java/lang/String") (G3 : Fld Z h0 sg "java/lang/String" "coder" "B" (.int (0 : Int32))) (G4 : Sta Z Z.heap "java/lang/String" "COMPACT_STRINGS" "Z" (.int cs)) (G5 : ¬ (cs = (0 : Int32))) (G6 : Old Z n0 h0) :
    MetFree l (⟨"java/lang/AbstractStringBuilder", "inflateIfNeededFor", "(Ljava/lang/String;)V"⟩ : MethodName) (head1 (Jvm.Cond.code (⟨"java/lang/AbstractStringBuilder", "inflateIfNeededFor", "(Ljava/lang/String;)V"⟩ : MethodName) jdk_68_method_71_code 2 none :: ws) (Rm 1 0 0 13)) (fun a_ U_ => a_ = #[(.ref sb), (.ref sg)] ∧ Z.Warmed39 U_.vm ∧ U_.heap = h0) (fun _ _ _ _ _ => True) (fun _ U_ o_ V_ => ∃ v_ L_, o_ = .returned v_ ∧ Q_rm13 Z sb sg cs h0 n0 v_ V_.heap L_ ∧ FrameEnd U_ o_ V_ L_ (Rm 1 0 0 13).cells (Rm 1 0 0 13).slots) := by
  refine MetFree.of_bodySF (plainFor_of_name pn_13) hisR ?_
  intro p e s m args below meth c s₁ Bd hml0 hP hK
  obtain ⟨rfl, hZ, hh⟩ := hP
  have hx := Bd.exec
  have hby := Bd.bytes
  have hml : c.maxLocals = 2 := hml0
  have hown : s.vm.findClass "java/lang/AbstractStringBuilder" = some m.cls := findClass_of_methodNamed Bd.named
  have hnm := (name_of_methodNamed Bd.named Bd.method).1
  have hlk : meth.locks = false := Bd.notSynchronized
  have X0 : Stand p l e (Rm 1 0 0 13) s m #[(.ref sb), (.ref sg)] below meth c s₁ [] 0 0 := Stand.of_body Bd
  have e0 : s₁.heap = h0 := by rw [← hh, Bd.state]; rfl
  have N0 := Fr.nil n0
  refine Comes.out (Q := Q_rm13 Z sb sg cs h0 n0) (kc := (Rm 1 0 0 13).cells) (ks := (Rm 1 0 0 13).slots) ?_
  refine Comes.cast (ef_rm13 m sb sg) ?_
  have lt_sb : sb < h0.size := G0.lt
  have lt_sg : sg < h0.size := G2.lt
  show Comes p e below _ (s₁.setTop (mkF m 0 #[.val (.ref sb), .val (.ref sg)] []))
  obtain ⟨T1, X1, e1, st1⟩ := getS2 X0 hx hZ hown (host := "") (Or.inl (W hw 43)) Via.refl e0 (G4.ext G6.2) (g := (mkF m 0 #[.val (.ref sb), .val (.ref sg)] [])) rfl (hb hby d13_0)
  refine Comes.st st1 ?_
  show Comes p e below _ (T1.setTop (mkF m 3 #[.val (.ref sb), .val (.ref sg)] [(.int cs)]))
  have hc3_2 : ¬ (cs = (0 : Int32)) := by assumption
  refine Comes.st (fun t k => XS.ifNo X1.here hx rfl (hb hby d13_3) rfl ((if0 _ _).trans (feq hc3_2).1) (XS.aloadN X1.here hx rfl (hb hby d13_6) rfl rfl k)) ?_
  show Comes p e below _ (T1.setTop (mkF m 7 #[.val (.ref sb), .val (.ref sg)] [(.ref sb)]))
  obtain ⟨T3, X3, e3, st3⟩ := getF X1 hx hZ hown (host := "") (Or.inl (W hw 46)) Via.refl e1 G1 (g := (mkF m 7 #[.val (.ref sb), .val (.ref sg)] [(.ref sb)])) rfl rfl (hb hby d13_7)
  refine Comes.st st3 ?_
  show Comes p e below _ (T3.setTop (mkF m 10 #[.val (.ref sb), .val (.ref sg)] [(.int (0 : Int32))]))
  refine Comes.st (fun t k => XS.aloadN X3.here hx rfl (hb hby d13_10) rfl rfl k) ?_
  show Comes p e below _ (T3.setTop (mkF m 11 #[.val (.ref sb), .val (.ref sg)] [(.ref sg), (.int (0 : Int32))]))
  obtain ⟨cq4, kq4, q4a, q4b, q4c⟩ := isOf hZ e3 G2
  obtain ⟨_, _, ⟨T4, L4, k4, n4⟩, -, X4, ⟨Lc4, hQ4, l4, y4, z4⟩, st4⟩ := X3.virtualBack hx (y := (⟨"java/lang/String", "coder", "()B"⟩ : MethodName)) (z := (⟨"java/lang/String", "coder", "()B"⟩ : MethodName)) hown (mvT hZ (W hw 88)) (mvT hZ (W hw 65)) (notFace_of_selects (args := #[]) (mvT hZ (W hw 67))) (mvT hZ (W hw 67)) (mvT hZ (W hw 66)) (by decide) (backOf (W := 1) (rm10 l Z a0 hw [] sg cs h0 n0 (by omega)  G3 G4 (by assumption) G6) hZ (W hw 68) (W hw 12) (by decide) (by decide)) q4a q4c (g := (mkF m 11 #[.val (.ref sb), .val (.ref sg)] [(.ref sg), (.int (0 : Int32))])) rfl (by rw [hml]; rfl) (Steps.refl _) (argsL := []) (rest := [(.int (0 : Int32))]) (lenOf pd_1 rfl) rfl (by show 2 * 0 + _ ≤ _; exact Nat.le_of_eq rfl) (hb hby d13_11) (fun _ _ => ⟨rfl, e3, (by decide : 0 + 0 ≤ _), (by decide : 0 + 0 ≤ _)⟩)
  dsimp only [Pt.U, Pt.locs, Pt.cells, Pt.slots] at X4 l4 y4 z4 st4 hQ4
  subst l4 y4 z4
  obtain ⟨rfl, Nq4, hs4⟩ := hQ4
  have N4 := Fr.app N0 Nq4
  refine Comes.go st4 ?_
  show Comes p e below _ (T4.setTop (mkF m 14 #[.val (.ref sb), .val (.ref sg)] [(.int (0 : Int32)), (.int (0 : Int32))]))
  have hc14_5 : (0 : Int32) = (0 : Int32) := by decide
  refine Comes.st (fun t k => XS.icmpYes X4.here hx rfl (pc0 := 14) (pc' := 21) rfl (hb hby d13_14) rfl (teq hc14_5).1 (by decide) (by decide) k) ?_
  show Comes p e below _ (T4.setTop (mkF m 21 #[.val (.ref sb), .val (.ref sg)] []))
  exact Comes.ret0 X4 hx Bd.returns hlk (hb hby d13_21) hs4 ⟨rfl, N4, rfl⟩ (by decide) (by decide)
def Q_gb0_6 (Z : State) (sg vb sv : Nat) (kv : ClassId) (vs : List Value) (cs : Int32) (kb : ClassId) (wl : List Value) (h0 : Heap) (n0 : Nat) (v_ : Option Value) (h : Heap) (L_ : List Loc) : Prop := ∃ (wm : List Value), (v_ = none) ∧ (Fr n0 L_) ∧ (Keep h0 h [vb]) ∧ (Arv Z h vb kb .byte (16 : Int32) wm (.int (0 : Int32))) ∧ (wm.length = 16)
theorem gb0_6 (l : Launch) (Z : State) (a0 : Array Value) (hw : ∀ d ∈ tables_1, d.before a0 Z = true) (ws : List Jvm.Cond) (sg vb sv : Nat) (kv : ClassId) (vs : List Value) (cs : Int32) (kb : ClassId) (wl : List Value) (h0 : Heap) (n0 : Nat) (Z0 : n0 ≤ h0.size) (G0 : Exa Z h0 sg "java/lang/String") (G1 : Fld Z h0 sg "java/lang/String" "value" "[B" (.ref sv)) (G2 : Fld Z h0 sg "java/lang/String" "coder" "B" (.int (0 : Int32))) (G3 : Arv Z h0 sv kv .byte (6 : Int32) vs (.int (0 : Int32))) (G4 : Arv Z h0 vb kb .byte (16 : Int32) wl (.int (0 : Int32))) (G5 : Exa Z h0 vb "[B") (G6 : wl.length = 16) (G7 : Sta Z Z.heap "java/lang/String" "COMPACT_STRINGS" "Z" (.int cs)) (G8 : ¬ (cs = (0 : Int32))) (G9 : Old Z n0 h0) (G10 : sv ≠ vb) (G11 : n0 ≤ vb) :
    MetFree l (⟨"java/lang/String", "getBytes", "([BIB)V"⟩ : MethodName) (head1 (Jvm.Cond.code (⟨"java/lang/String", "getBytes", "([BIB)V"⟩ : MethodName) jdk_42_method_147_code 4 none :: ws) (Rm 1 0 0 27)) (fun a_ U_ => a_ = #[(.ref sg), (.ref vb), (.int (0 : Int32)), (.int (0 : Int32))] ∧ Z.Warmed39 U_.vm ∧ U_.heap = h0) (fun _ _ _ _ _ => True) (fun _ U_ o_ V_ => ∃ v_ L_, o_ = .returned v_ ∧ Q_gb0_6 Z sg vb sv kv vs cs kb wl h0 n0 v_ V_.heap L_ ∧ FrameEnd U_ o_ V_ L_ (Rm 1 0 0 27).cells (Rm 1 0 0 27).slots) := by
  refine MetFree.of_bodySF (plainFor_of_name pn_14) hisR ?_
  intro p e s m args below meth c s₁ Bd hml0 hP hK
  obtain ⟨rfl, hZ, hh⟩ := hP
  have hx := Bd.exec
  have hby := Bd.bytes
  have hml : c.maxLocals = 4 := hml0
  have hown : s.vm.findClass "java/lang/String" = some m.cls := findClass_of_methodNamed Bd.named
  have hnm := (name_of_methodNamed Bd.named Bd.method).1
  have hlk : meth.locks = false := Bd.notSynchronized
  have X0 : Stand p l e (Rm 1 0 0 27) s m #[(.ref sg), (.ref vb), (.int (0 : Int32)), (.int (0 : Int32))] below meth c s₁ [] 0 0 := Stand.of_body Bd
  have e0 : s₁.heap = h0 := by rw [← hh, Bd.state]; rfl
  have N0 := Fr.nil n0
  have K0 := Keep.refl h0 [vb]
  refine Comes.out (Q := Q_gb0_6 Z sg vb sv kv vs cs kb wl h0 n0) (kc := (Rm 1 0 0 27).cells) (ks := (Rm 1 0 0 27).slots) ?_
  refine Comes.cast (ef_gb0_6 m sg vb) ?_
  have lt_sg : sg < h0.size := G0.lt
  have lt_sv : sv < h0.size := G3.lt
  have lt_vb : vb < h0.size := G4.lt
  show Comes p e below _ (s₁.setTop (mkF m 0 #[.val (.ref sg), .val (.ref vb), .val (.int (0 : Int32)), .val (.int (0 : Int32))] []))
  refine Comes.st (fun t k => XS.aloadN X0.here hx rfl (hb hby d14_0) rfl rfl k) ?_
  show Comes p e below _ (s₁.setTop (mkF m 1 #[.val (.ref sg), .val (.ref vb), .val (.int (0 : Int32)), .val (.int (0 : Int32))] [(.ref sg)]))
  obtain ⟨cq1, kq1, q1a, q1b, q1c⟩ := isOf hZ e0 G0
  obtain ⟨_, _, ⟨T1, L1, k1, n1⟩, -, X1, ⟨Lc1, hQ1, l1, y1, z1⟩, st1⟩ := X0.virtualBack hx (y := (⟨"java/lang/String", "coder", "()B"⟩ : MethodName)) (z := (⟨"java/lang/String", "coder", "()B"⟩ : MethodName)) hown (mvT hZ (W hw 64)) (mvT hZ (W hw 65)) (notFace_of_selects (args := #[]) (mvT hZ (W hw 67))) (mvT hZ (W hw 67)) (mvT hZ (W hw 66)) (by decide) (backOf (W := 0) (rm10 l Z a0 hw [] sg cs h0 n0 (by omega)  G2 G7 (by assumption) G9) hZ (W hw 68) (W hw 12) (by decide) (by decide)) q1a q1c (g := (mkF m 1 #[.val (.ref sg), .val (.ref vb), .val (.int (0 : Int32)), .val (.int (0 : Int32))] [(.ref sg)])) rfl (by rw [hml]; rfl) (Steps.refl _) (argsL := []) (rest := []) (lenOf pd_1 rfl) rfl (by show 2 * 0 + _ ≤ _; exact Nat.le_of_eq rfl) (hb hby d14_1) (fun _ _ => ⟨rfl, e0, (by decide : 0 + 0 ≤ _), (by decide : 0 + 0 ≤ _)⟩)
  dsimp only [Pt.U, Pt.locs, Pt.cells, Pt.slots] at X1 l1 y1 z1 st1 hQ1
  subst l1 y1 z1
  obtain ⟨rfl, Nq1, hs1⟩ := hQ1
  have N1 := Fr.app N0 Nq1
  refine Comes.go st1 ?_
  show Comes p e below _ (T1.setTop (mkF m 4 #[.val (.ref sg), .val (.ref vb), .val (.int (0 : Int32)), .val (.int (0 : Int32))] [(.int (0 : Int32))]))
  refine Comes.st (fun t k => XS.iloadN X1.here hx rfl (hb hby d14_4) rfl k) ?_
  show Comes p e below _ (T1.setTop (mkF m 5 #[.val (.ref sg), .val (.ref vb), .val (.int (0 : Int32)), .val (.int (0 : Int32))] [(.int (0 : Int32)), (.int (0 : Int32))]))
  have hc5_2 : (0 : Int32) = (0 : Int32) := by decide
  refine Comes.st (fun t k => XS.icmpNo X1.here hx rfl (hb hby d14_5) rfl (teq hc5_2).2 (XS.aloadN X1.here hx rfl (hb hby d14_8) rfl rfl k)) ?_
  show Comes p e below _ (T1.setTop (mkF m 9 #[.val (.ref sg), .val (.ref vb), .val (.int (0 : Int32)), .val (.int (0 : Int32))] [(.ref sg)]))
  obtain ⟨T3, X3, e3, st3⟩ := getF X1 hx hZ hown (host := "") (Or.inl (W hw 63)) Via.refl hs1 G1 (g := (mkF m 9 #[.val (.ref sg), .val (.ref vb), .val (.int (0 : Int32)), .val (.int (0 : Int32))] [(.ref sg)])) rfl rfl (hb hby d14_9)
  refine Comes.st st3 ?_
  show Comes p e below _ (T3.setTop (mkF m 12 #[.val (.ref sg), .val (.ref vb), .val (.int (0 : Int32)), .val (.int (0 : Int32))] [(.ref sv)]))
  refine Comes.st (fun t k => XS.iconst X3.here hx rfl (hb hby d14_12) (XS.aloadN X3.here hx rfl (hb hby d14_13) rfl rfl (XS.iloadN X3.here hx rfl (hb hby d14_14) rfl (XS.iloadN X3.here hx rfl (hb hby d14_15) rfl (XS.ishl X3.here hx rfl (hb hby d14_16) rfl k))))) ?_
  show Comes p e below _ (T3.setTop (mkF m 17 #[.val (.ref sg), .val (.ref vb), .val (.int (0 : Int32)), .val (.int (0 : Int32))] [(.int ((0 : Int32) <<< ((0 : Int32) &&& 31))), (.ref vb), (.int (0 : Int32)), (.ref sv)]))
  rw [show ((0 : Int32) <<< ((0 : Int32) &&& 31)) = (0 : Int32) from by decide]
  show Comes p e below _ (T3.setTop (mkF m 17 #[.val (.ref sg), .val (.ref vb), .val (.int (0 : Int32)), .val (.int (0 : Int32))] [(.int (0 : Int32)), (.ref vb), (.int (0 : Int32)), (.ref sv)]))
  refine Comes.st (fun t k => XS.aloadN X3.here hx rfl (hb hby d14_17) rfl rfl k) ?_
  show Comes p e below _ (T3.setTop (mkF m 18 #[.val (.ref sg), .val (.ref vb), .val (.int (0 : Int32)), .val (.int (0 : Int32))] [(.ref sg), (.int (0 : Int32)), (.ref vb), (.int (0 : Int32)), (.ref sv)]))
  obtain ⟨T4, X4, e4, st4⟩ := getF X3 hx hZ hown (host := "") (Or.inl (W hw 63)) Via.refl e3 G1 (g := (mkF m 18 #[.val (.ref sg), .val (.ref vb), .val (.int (0 : Int32)), .val (.int (0 : Int32))] [(.ref sg), (.int (0 : Int32)), (.ref vb), (.int (0 : Int32)), (.ref sv)])) rfl rfl (hb hby d14_18)
  refine Comes.st st4 ?_
  show Comes p e below _ (T4.setTop (mkF m 21 #[.val (.ref sg), .val (.ref vb), .val (.int (0 : Int32)), .val (.int (0 : Int32))] [(.ref sv), (.int (0 : Int32)), (.ref vb), (.int (0 : Int32)), (.ref sv)]))
  obtain ⟨cl5, Ar5, -, S5, Ng5, -, -⟩ := id G3
  refine Comes.st (fun t k => X4.arraylength hx (by rw [e4]; exact Ar5.1) (State.isArrayOf_alike hZ.alike Ar5.2.1) (g := (mkF m 21 #[.val (.ref sg), .val (.ref vb), .val (.int (0 : Int32)), .val (.int (0 : Int32))] [(.ref sv), (.int (0 : Int32)), (.ref vb), (.int (0 : Int32)), (.ref sv)])) rfl rfl (hb hby d14_21) _ k) ?_
  rw [len_of S5 Ng5]
  show Comes p e below _ (T4.setTop (mkF m 22 #[.val (.ref sg), .val (.ref vb), .val (.int (0 : Int32)), .val (.int (0 : Int32))] [(.int (6 : Int32)), (.int (0 : Int32)), (.ref vb), (.int (0 : Int32)), (.ref sv)]))
  obtain ⟨T6, h6, L6, X6, e6, N6, Kq6, V6, st6⟩ := cpA X4 hx hZ hown (W hw 94) (W hw 97) (W hw 95) (W hw 96) e4 G3 G4 (Or.inl ⟨rfl, rfl⟩) (by decide) (by decide) (by decide) (by decide) (by decide) rfl (by rw [G6]; decide) N1 (by omega) (g := (mkF m 22 #[.val (.ref sg), .val (.ref vb), .val (.int (0 : Int32)), .val (.int (0 : Int32))] [(.int (6 : Int32)), (.int (0 : Int32)), (.ref vb), (.int (0 : Int32)), (.ref sv)])) rfl (by rw [hml]; rfl) (rest := []) rfl (hb hby d14_22) (by decide) (W := 0) (by show 2 * 0 + _ ≤ _; exact Nat.le_of_eq rfl) (by decide)
  have z6 : h0.size ≤ h6.size := Kq6.1
  have K6 : Keep h0 h6 [vb] := K0.trans Kq6 (allS (Or.inl (List.mem_of_getElem? (i := 0) rfl)) all0)
  obtain ⟨w6, V6', hl6⟩ : ∃ w_ : List Value, Arv Z h6 vb kb .byte (16 : Int32) w_ (.int (0 : Int32)) ∧ w_.length = 16 := ⟨_, V6, by simp [G6]⟩
  refine Comes.st st6 ?_
  show Comes p e below _ (T6.setTop (mkF m 25 #[.val (.ref sg), .val (.ref vb), .val (.int (0 : Int32)), .val (.int (0 : Int32))] []))
  refine Comes.st (fun t k => XS.goto X6.here hx rfl (pc0 := 25) (pc' := 43) rfl (hb hby d14_25) (by decide) (by decide) k) ?_
  show Comes p e below _ (T6.setTop (mkF m 43 #[.val (.ref sg), .val (.ref vb), .val (.int (0 : Int32)), .val (.int (0 : Int32))] []))
  exact Comes.ret0 X6 hx Bd.returns hlk (hb hby d14_43) e6 ⟨w6, rfl, N6, K6, V6', (by assumption)⟩ (by decide) (by decide)
def Q_ps0_6 (Z : State) (sb sg sv : Nat) (kv : ClassId) (vs : List Value) (cs : Int32) (vb : Nat) (kb : ClassId) (wl : List Value) (h0 : Heap) (n0 : Nat) (v_ : Option Value) (h : Heap) (L_ : List Loc) : Prop := ∃ (wm : List Value), (v_ = none) ∧ (Fr n0 L_) ∧ (Keep h0 h [vb]) ∧ (Arv Z h vb kb .byte (16 : Int32) wm (.int (0 : Int32))) ∧ (wm.length = 16)
theorem ps0_6 (l : Launch) (Z : State) (a0 : Array Value) (hw : ∀ d ∈ tables_1, d.before a0 Z = true) (ws : List Jvm.Cond) (sb sg sv : Nat) (kv : ClassId) (vs : List Value) (cs : Int32) (vb : Nat) (kb : ClassId) (wl : List Value) (h0 : Heap) (n0 : Nat) (Z0 : n0 ≤ h0.size) (G0 : Exa Z h0 sb "java/lang/StringBuilder") (G1 : Fld Z h0 sb "java/lang/AbstractStringBuilder" "value" "[B" (.ref vb)) (G2 : Fld Z h0 sb "java/lang/AbstractStringBuilder" "coder" "B" (.int (0 : Int32))) (G3 : Fld Z h0 sb "java/lang/AbstractStringBuilder" "count" "I" (.int (0 : Int32))) (G4 : Exa Z h0 sg "java/lang/String") (G5 : Fld Z h0 sg "java/lang/String" "value" "[B" (.ref sv)) (G6 : Fld Z h0 sg "java/lang/String" "coder" "B" (.int (0 : Int32))) (G7 : Arv Z h0 sv kv .byte (6 : Int32) vs (.int (0 : Int32))) (G8 : Arv Z h0 vb kb .byte (16 : Int32) wl (.int (0 : Int32))) (G9 : Exa Z h0 vb "[B") (G10 : wl.length = 16) (G11 : Sta Z Z.heap "java/lang/String" "COMPACT_STRINGS" "Z" (.int cs)) (G12 : ¬ (cs = (0 : Int32))) (G13 : Old Z n0 h0) (G14 : sv ≠ vb) (G15 : n0 ≤ vb) (G16 : sb ≠ vb) (G17 : sg ≠ vb) :
    MetFree l (⟨"java/lang/AbstractStringBuilder", "putStringAt", "(ILjava/lang/String;)V"⟩ : MethodName) (head1 (Jvm.Cond.code (⟨"java/lang/AbstractStringBuilder", "putStringAt", "(ILjava/lang/String;)V"⟩ : MethodName) jdk_68_method_73_code 3 none :: ws) (Rm 2 0 0 42)) (fun a_ U_ => a_ = #[(.ref sb), (.int (0 : Int32)), (.ref sg)] ∧ Z.Warmed39 U_.vm ∧ U_.heap = h0) (fun _ _ _ _ _ => True) (fun _ U_ o_ V_ => ∃ v_ L_, o_ = .returned v_ ∧ Q_ps0_6 Z sb sg sv kv vs cs vb kb wl h0 n0 v_ V_.heap L_ ∧ FrameEnd U_ o_ V_ L_ (Rm 2 0 0 42).cells (Rm 2 0 0 42).slots) := by
  refine MetFree.of_bodySF (plainFor_of_name pn_12) hisR ?_
  intro p e s m args below meth c s₁ Bd hml0 hP hK
  obtain ⟨rfl, hZ, hh⟩ := hP
  have hx := Bd.exec
  have hby := Bd.bytes
  have hml : c.maxLocals = 3 := hml0
  have hown : s.vm.findClass "java/lang/AbstractStringBuilder" = some m.cls := findClass_of_methodNamed Bd.named
  have hnm := (name_of_methodNamed Bd.named Bd.method).1
  have hlk : meth.locks = false := Bd.notSynchronized
  have X0 : Stand p l e (Rm 2 0 0 42) s m #[(.ref sb), (.int (0 : Int32)), (.ref sg)] below meth c s₁ [] 0 0 := Stand.of_body Bd
  have e0 : s₁.heap = h0 := by rw [← hh, Bd.state]; rfl
  have N0 := Fr.nil n0
  have K0 := Keep.refl h0 [vb]
  refine Comes.out (Q := Q_ps0_6 Z sb sg sv kv vs cs vb kb wl h0 n0) (kc := (Rm 2 0 0 42).cells) (ks := (Rm 2 0 0 42).slots) ?_
  refine Comes.cast (ef_ps0_6 m sb sg) ?_
  have lt_sb : sb < h0.size := G0.lt
  have lt_sg : sg < h0.size := G4.lt
  have lt_sv : sv < h0.size := G7.lt
  have lt_vb : vb < h0.size := G8.lt
  show Comes p e below _ (s₁.setTop (mkF m 0 #[.val (.ref sb), .val (.int (0 : Int32)), .val (.ref sg)] []))
  refine Comes.st (fun t k => XS.aloadN X0.here hx rfl (hb hby d12_0) rfl rfl (XS.aloadN X0.here hx rfl (hb hby d12_1) rfl rfl k)) ?_
  show Comes p e below _ (s₁.setTop (mkF m 2 #[.val (.ref sb), .val (.int (0 : Int32)), .val (.ref sg)] [(.ref sg), (.ref sb)]))
  obtain ⟨cq1, q1, q1'⟩ := G0.cell
  obtain ⟨_, _, ⟨T1, L1, k1, n1⟩, -, X1, ⟨Lc1, hQ1, l1, y1, z1⟩, st1⟩ := X0.privateBack hx (y := (⟨"java/lang/AbstractStringBuilder", "inflateIfNeededFor", "(Ljava/lang/String;)V"⟩ : MethodName)) hown (mvT hZ (W hw 83)) (mvT hZ (W hw 84)) (mvT hZ (own_selq (y := (⟨"java/lang/AbstractStringBuilder", "inflateIfNeededFor", "(Ljava/lang/String;)V"⟩ : MethodName)) (W hw 86) (W hw 85) (W hw 84) (by decide))) (Cond.privateMethod_at (mvP hZ (W hw 85) (args := #[]))) (mvT hZ (W hw 87)) (by decide) (backOf (W := 0) (rm13 l Z a0 hw [] sb sg cs h0 n0 (by omega)  G0 G2 G4 G6 G11 (by assumption) G13) hZ (W hw 87) (W hw 40) (by decide) (by decide)) (g := (mkF m 2 #[.val (.ref sb), .val (.int (0 : Int32)), .val (.ref sg)] [(.ref sg), (.ref sb)])) rfl (by rw [hml]; rfl) (Steps.refl _) (a := sb) (by rw [e0]; exact q1) q1' (argsL := [(.ref sg)]) (rest := []) (lenOf pd_2 rfl) rfl (by show 2 * 0 + _ ≤ _; exact Nat.le_of_eq rfl) (hb hby d12_2) (fun _ _ => ⟨rfl, e0, (by decide : 0 + 0 ≤ _), (by decide : 0 + 0 ≤ _)⟩)
  dsimp only [Pt.U, Pt.locs, Pt.cells, Pt.slots] at X1 l1 y1 z1 st1 hQ1
  subst l1 y1 z1
  obtain ⟨rfl, Nq1, hs1⟩ := hQ1
  have N1 := Fr.app N0 Nq1
  refine Comes.go st1 ?_
  show Comes p e below _ (T1.setTop (mkF m 5 #[.val (.ref sb), .val (.int (0 : Int32)), .val (.ref sg)] []))
  refine Comes.st (fun t k => XS.aloadN X1.here hx rfl (hb hby d12_5) rfl rfl (XS.aloadN X1.here hx rfl (hb hby d12_6) rfl rfl k)) ?_
  show Comes p e below _ (T1.setTop (mkF m 7 #[.val (.ref sb), .val (.int (0 : Int32)), .val (.ref sg)] [(.ref sb), (.ref sg)]))
  obtain ⟨T2, X2, e2, st2⟩ := getF X1 hx hZ hown (host := "") (Or.inl (W hw 44)) Via.refl hs1 G1 (g := (mkF m 7 #[.val (.ref sb), .val (.int (0 : Int32)), .val (.ref sg)] [(.ref sb), (.ref sg)])) rfl rfl (hb hby d12_7)
  refine Comes.st st2 ?_
  show Comes p e below _ (T2.setTop (mkF m 10 #[.val (.ref sb), .val (.int (0 : Int32)), .val (.ref sg)] [(.ref vb), (.ref sg)]))
  refine Comes.st (fun t k => XS.iloadN X2.here hx rfl (hb hby d12_10) rfl (XS.aloadN X2.here hx rfl (hb hby d12_11) rfl rfl k)) ?_
  show Comes p e below _ (T2.setTop (mkF m 12 #[.val (.ref sb), .val (.int (0 : Int32)), .val (.ref sg)] [(.ref sb), (.int (0 : Int32)), (.ref vb), (.ref sg)]))
  obtain ⟨T3, X3, e3, st3⟩ := getF X2 hx hZ hown (host := "") (Or.inl (W hw 46)) Via.refl e2 G2 (g := (mkF m 12 #[.val (.ref sb), .val (.int (0 : Int32)), .val (.ref sg)] [(.ref sb), (.int (0 : Int32)), (.ref vb), (.ref sg)])) rfl rfl (hb hby d12_12)
  refine Comes.st st3 ?_
  show Comes p e below _ (T3.setTop (mkF m 15 #[.val (.ref sb), .val (.int (0 : Int32)), .val (.ref sg)] [(.int (0 : Int32)), (.int (0 : Int32)), (.ref vb), (.ref sg)]))
  obtain ⟨cq4, kq4, q4a, q4b, q4c⟩ := isOf hZ e3 G4
  obtain ⟨_, _, ⟨T4, L4, k4, n4⟩, -, X4, ⟨Lc4, hQ4, l4, y4, z4⟩, st4⟩ := X3.virtualBack hx (y := (⟨"java/lang/String", "getBytes", "([BIB)V"⟩ : MethodName)) (z := (⟨"java/lang/String", "getBytes", "([BIB)V"⟩ : MethodName)) hown (mvT hZ (W hw 89)) (mvT hZ (W hw 90)) (notFace_of_selects (args := #[]) (mvT hZ (W hw 92))) (mvT hZ (W hw 92)) (mvT hZ (W hw 91)) (by decide) (backOf (W := 0) (gb0_6 l Z a0 hw [] sg vb sv kv vs cs kb wl h0 n0 (by omega)  G4 G5 G6 G7 G8 G9 (by first | assumption | rfl) G11 (by assumption) G13 G14 (by omega)) hZ (W hw 93) (W hw 12) (by decide) (by decide)) q4a q4c (g := (mkF m 15 #[.val (.ref sb), .val (.int (0 : Int32)), .val (.ref sg)] [(.int (0 : Int32)), (.int (0 : Int32)), (.ref vb), (.ref sg)])) rfl (by rw [hml]; rfl) (Steps.refl _) (argsL := [(.ref vb), (.int (0 : Int32)), (.int (0 : Int32))]) (rest := []) (lenOf pd_3 rfl) rfl (by show 2 * 0 + _ ≤ _; exact Nat.le_of_eq rfl) (hb hby d12_15) (fun _ _ => ⟨rfl, e3, (by decide : 0 + 0 ≤ _), (by decide : 0 + 0 ≤ _)⟩)
  dsimp only [Pt.U, Pt.locs, Pt.cells, Pt.slots] at X4 l4 y4 z4 st4 hQ4
  subst l4 y4 z4
  obtain ⟨r5, rfl, Nq4, Kq4, P4_0, P4_1⟩ := hQ4
  have N4 := Fr.app N1 Nq4
  have z4k : h0.size ≤ T4.heap.size := Kq4.1
  have K4 : Keep h0 T4.heap [vb] := K0.trans Kq4 (allS (Or.inl (List.mem_of_getElem? (i := 0) rfl)) all0)
  refine Comes.go st4 ?_
  show Comes p e below _ (T4.setTop (mkF m 18 #[.val (.ref sb), .val (.int (0 : Int32)), .val (.ref sg)] []))
  exact Comes.ret0 X4 hx Bd.returns hlk (hb hby d12_18) rfl ⟨r5, rfl, N4, K4, P4_0, (by assumption)⟩ (by decide) (by decide)
def Q_aa0_6 (Z : State) (sb sg sv : Nat) (kv : ClassId) (vs : List Value) (cs : Int32) (vb : Nat) (kb : ClassId) (wl : List Value) (h0 : Heap) (n0 : Nat) (v_ : Option Value) (h : Heap) (L_ : List Loc) : Prop := ∃ (wm : List Value), (v_ = some (.ref sb)) ∧ (Fr n0 L_) ∧ (Keep h0 h [sb, vb]) ∧ (Exa Z h sb "java/lang/StringBuilder") ∧ (Fld Z h sb "java/lang/AbstractStringBuilder" "value" "[B" (.ref vb)) ∧ (Fld Z h sb "java/lang/AbstractStringBuilder" "coder" "B" (.int (0 : Int32))) ∧ (Fld Z h sb "java/lang/AbstractStringBuilder" "count" "I" (.int (6 : Int32))) ∧ (Arv Z h vb kb .byte (16 : Int32) wm (.int (0 : Int32))) ∧ (wm.length = 16) ∧ (Exa Z h vb "[B")
theorem aa0_6 (l : Launch) (Z : State) (a0 : Array Value) (hw : ∀ d ∈ tables_1, d.before a0 Z = true) (ws : List Jvm.Cond) (sb sg sv : Nat) (kv : ClassId) (vs : List Value) (cs : Int32) (vb : Nat) (kb : ClassId) (wl : List Value) (h0 : Heap) (n0 : Nat) (Z0 : n0 ≤ h0.size) (G0 : Exa Z h0 sb "java/lang/StringBuilder") (G1 : Fld Z h0 sb "java/lang/AbstractStringBuilder" "value" "[B" (.ref vb)) (G2 : Fld Z h0 sb "java/lang/AbstractStringBuilder" "coder" "B" (.int (0 : Int32))) (G3 : Fld Z h0 sb "java/lang/AbstractStringBuilder" "count" "I" (.int (0 : Int32))) (G4 : Exa Z h0 sg "java/lang/String") (G5 : Fld Z h0 sg "java/lang/String" "value" "[B" (.ref sv)) (G6 : Fld Z h0 sg "java/lang/String" "coder" "B" (.int (0 : Int32))) (G7 : Arv Z h0 sv kv .byte (6 : Int32) vs (.int (0 : Int32))) (G8 : Arv Z h0 vb kb .byte (16 : Int32) wl (.int (0 : Int32))) (G9 : Exa Z h0 vb "[B") (G10 : wl.length = 16) (G11 : Sta Z Z.heap "java/lang/String" "COMPACT_STRINGS" "Z" (.int cs)) (G12 : ¬ (cs = (0 : Int32))) (G13 : Old Z n0 h0) (G14 : sv ≠ vb) (G15 : n0 ≤ vb) (G16 : sb ≠ vb) (G17 : sg ≠ vb) (G18 : n0 ≤ sb) (G19 : sg ≠ sb) (G20 : sv ≠ sb) :
    MetFree l (⟨"java/lang/AbstractStringBuilder", "append", "(Ljava/lang/String;)Ljava/lang/AbstractStringBuilder;"⟩ : MethodName) (head1 (Jvm.Cond.code (⟨"java/lang/AbstractStringBuilder", "append", "(Ljava/lang/String;)Ljava/lang/AbstractStringBuilder;"⟩ : MethodName) jdk_68_method_22_code 3 (some (.object "java/lang/AbstractStringBuilder")) :: ws) (Rm 3 0 0 56)) (fun a_ U_ => a_ = #[(.ref sb), (.ref sg)] ∧ Z.Warmed39 U_.vm ∧ U_.heap = h0) (fun _ _ _ _ _ => True) (fun _ U_ o_ V_ => ∃ v_ L_, o_ = .returned v_ ∧ Q_aa0_6 Z sb sg sv kv vs cs vb kb wl h0 n0 v_ V_.heap L_ ∧ FrameEnd U_ o_ V_ L_ (Rm 3 0 0 56).cells (Rm 3 0 0 56).slots) := by
  refine MetFree.of_bodySF (plainFor_of_name pn_8) hisR ?_
  intro p e s m args below meth c s₁ Bd hml0 hP hK
  obtain ⟨rfl, hZ, hh⟩ := hP
  have hx := Bd.exec
  have hby := Bd.bytes
  have hml : c.maxLocals = 3 := hml0
  have hown : s.vm.findClass "java/lang/AbstractStringBuilder" = some m.cls := findClass_of_methodNamed Bd.named
  have hnm := (name_of_methodNamed Bd.named Bd.method).1
  have hlk : meth.locks = false := Bd.notSynchronized
  have X0 : Stand p l e (Rm 3 0 0 56) s m #[(.ref sb), (.ref sg)] below meth c s₁ [] 0 0 := Stand.of_body Bd
  have e0 : s₁.heap = h0 := by rw [← hh, Bd.state]; rfl
  have N0 := Fr.nil n0
  have K0 := Keep.refl h0 [sb, vb]
  refine Comes.out (Q := Q_aa0_6 Z sb sg sv kv vs cs vb kb wl h0 n0) (kc := (Rm 3 0 0 56).cells) (ks := (Rm 3 0 0 56).slots) ?_
  refine Comes.cast (ef_aa0_6 m sb sg) ?_
  have lt_sb : sb < h0.size := G0.lt
  have lt_sg : sg < h0.size := G4.lt
  have lt_sv : sv < h0.size := G7.lt
  have lt_vb : vb < h0.size := G8.lt
  show Comes p e below _ (s₁.setTop (mkF m 0 #[.val (.ref sb), .val (.ref sg), .unset] []))
  refine Comes.st (fun t k => XS.aloadN X0.here hx rfl (hb hby d8_0) rfl rfl (XS.ifnonnullYes X0.here hx rfl (pc0 := 1) (pc' := 9) rfl (hb hby d8_1) rfl (by decide) (by decide) (XS.aloadN X0.here hx rfl (hb hby d8_9) rfl rfl k))) ?_
  show Comes p e below _ (s₁.setTop (mkF m 10 #[.val (.ref sb), .val (.ref sg), .unset] [(.ref sg)]))
  obtain ⟨cq1, kq1, q1a, q1b, q1c⟩ := isOf hZ e0 G4
  obtain ⟨_, _, ⟨T1, L1, k1, n1⟩, -, X1, ⟨Lc1, hQ1, l1, y1, z1⟩, st1⟩ := X0.virtualBack hx (y := (⟨"java/lang/String", "length", "()I"⟩ : MethodName)) (z := (⟨"java/lang/String", "length", "()I"⟩ : MethodName)) hown (mvT hZ (W hw 58)) (mvT hZ (W hw 59)) (notFace_of_selects (args := #[]) (mvT hZ (W hw 61))) (mvT hZ (W hw 61)) (mvT hZ (W hw 60)) (by decide) (backOf (W := 0) (len6 l Z a0 hw [] sg sv kv vs cs h0 n0 (by omega)  G4 G5 G6 G7 G11 (by assumption) G13) hZ (W hw 62) (W hw 12) (by decide) (by decide)) q1a q1c (g := (mkF m 10 #[.val (.ref sb), .val (.ref sg), .unset] [(.ref sg)])) rfl (by rw [hml]; rfl) (Steps.refl _) (argsL := []) (rest := []) (lenOf pd_4 rfl) rfl (by show 2 * 0 + _ ≤ _; exact Nat.le_of_eq rfl) (hb hby d8_10) (fun _ _ => ⟨rfl, e0, (by decide : 0 + 0 ≤ _), (by decide : 0 + 0 ≤ _)⟩)
  dsimp only [Pt.U, Pt.locs, Pt.cells, Pt.slots] at X1 l1 y1 z1 st1 hQ1
  subst l1 y1 z1
  obtain ⟨rfl, Nq1, hs1⟩ := hQ1
  have N1 := Fr.app N0 Nq1
  refine Comes.go st1 ?_
  show Comes p e below _ (T1.setTop (mkF m 13 #[.val (.ref sb), .val (.ref sg), .unset] [(.int (6 : Int32))]))
  refine Comes.st (fun t k => XS.istoreN X1.here hx rfl (hb hby d8_13) rfl (l' := #[.val (.ref sb), .val (.ref sg), .val (.int (6 : Int32))]) rfl (XS.aloadN X1.here hx rfl (hb hby d8_14) rfl rfl (XS.aloadN X1.here hx rfl (hb hby d8_15) rfl rfl k))) ?_
  show Comes p e below _ (T1.setTop (mkF m 16 #[.val (.ref sb), .val (.ref sg), .val (.int (6 : Int32))] [(.ref sb), (.ref sb)]))
  obtain ⟨T2, X2, e2, st2⟩ := getF X1 hx hZ hown (host := "") (Or.inl (W hw 71)) Via.refl hs1 G3 (g := (mkF m 16 #[.val (.ref sb), .val (.ref sg), .val (.int (6 : Int32))] [(.ref sb), (.ref sb)])) rfl rfl (hb hby d8_16)
  refine Comes.st st2 ?_
  show Comes p e below _ (T2.setTop (mkF m 19 #[.val (.ref sb), .val (.ref sg), .val (.int (6 : Int32))] [(.int (0 : Int32)), (.ref sb)]))
  refine Comes.st (fun t k => XS.iloadN X2.here hx rfl (hb hby d8_19) rfl (XS.iadd X2.here hx rfl (hb hby d8_20) rfl k)) ?_
  show Comes p e below _ (T2.setTop (mkF m 21 #[.val (.ref sb), .val (.ref sg), .val (.int (6 : Int32))] [(.int ((0 : Int32) + (6 : Int32))), (.ref sb)]))
  rw [show ((0 : Int32) + (6 : Int32)) = (6 : Int32) from by decide]
  show Comes p e below _ (T2.setTop (mkF m 21 #[.val (.ref sb), .val (.ref sg), .val (.int (6 : Int32))] [(.int (6 : Int32)), (.ref sb)]))
  obtain ⟨cq3, q3, q3'⟩ := G0.cell
  obtain ⟨_, _, ⟨T3, L3, k3, n3⟩, -, X3, ⟨Lc3, hQ3, l3, y3, z3⟩, st3⟩ := X2.privateBack hx (y := (⟨"java/lang/AbstractStringBuilder", "ensureCapacityInternal", "(I)V"⟩ : MethodName)) hown (mvT hZ (W hw 73)) (mvT hZ (W hw 74)) (mvT hZ (own_selq (y := (⟨"java/lang/AbstractStringBuilder", "ensureCapacityInternal", "(I)V"⟩ : MethodName)) (W hw 76) (W hw 75) (W hw 74) (by decide))) (Cond.privateMethod_at (mvP hZ (W hw 75) (args := #[]))) (mvT hZ (W hw 77)) (by decide) (backOf (W := 0) (ens6 l Z a0 hw [] sb vb kb wl ((0 : Int32)) h0 n0 (by omega)  G0 G1 G2 G3 G8) hZ (W hw 77) (W hw 40) (by decide) (by decide)) (g := (mkF m 21 #[.val (.ref sb), .val (.ref sg), .val (.int (6 : Int32))] [(.int (6 : Int32)), (.ref sb)])) rfl (by rw [hml]; rfl) (Steps.refl _) (a := sb) (by rw [e2]; exact q3) q3' (argsL := [(.int (6 : Int32))]) (rest := []) (lenOf pd_0 rfl) rfl (by show 2 * 0 + _ ≤ _; exact Nat.le_of_eq rfl) (hb hby d8_21) (fun _ _ => ⟨rfl, e2, (by decide : 0 + 0 ≤ _), (by decide : 0 + 0 ≤ _)⟩)
  dsimp only [Pt.U, Pt.locs, Pt.cells, Pt.slots] at X3 l3 y3 z3 st3 hQ3
  subst l3 y3 z3
  obtain ⟨rfl, Nq3, hs3⟩ := hQ3
  have N3 := Fr.app N1 Nq3
  refine Comes.go st3 ?_
  show Comes p e below _ (T3.setTop (mkF m 24 #[.val (.ref sb), .val (.ref sg), .val (.int (6 : Int32))] []))
  refine Comes.st (fun t k => XS.aloadN X3.here hx rfl (hb hby d8_24) rfl rfl (XS.aloadN X3.here hx rfl (hb hby d8_25) rfl rfl k)) ?_
  show Comes p e below _ (T3.setTop (mkF m 26 #[.val (.ref sb), .val (.ref sg), .val (.int (6 : Int32))] [(.ref sb), (.ref sb)]))
  obtain ⟨T4, X4, e4, st4⟩ := getF X3 hx hZ hown (host := "") (Or.inl (W hw 71)) Via.refl hs3 G3 (g := (mkF m 26 #[.val (.ref sb), .val (.ref sg), .val (.int (6 : Int32))] [(.ref sb), (.ref sb)])) rfl rfl (hb hby d8_26)
  refine Comes.st st4 ?_
  show Comes p e below _ (T4.setTop (mkF m 29 #[.val (.ref sb), .val (.ref sg), .val (.int (6 : Int32))] [(.int (0 : Int32)), (.ref sb)]))
  refine Comes.st (fun t k => XS.aloadN X4.here hx rfl (hb hby d8_29) rfl rfl k) ?_
  show Comes p e below _ (T4.setTop (mkF m 30 #[.val (.ref sb), .val (.ref sg), .val (.int (6 : Int32))] [(.ref sg), (.int (0 : Int32)), (.ref sb)]))
  obtain ⟨cq5, q5, q5'⟩ := G0.cell
  obtain ⟨_, _, ⟨T5, L5, k5, n5⟩, -, X5, ⟨Lc5, hQ5, l5, y5, z5⟩, st5⟩ := X4.privateBack hx (y := (⟨"java/lang/AbstractStringBuilder", "putStringAt", "(ILjava/lang/String;)V"⟩ : MethodName)) hown (mvT hZ (W hw 78)) (mvT hZ (W hw 79)) (mvT hZ (own_selq (y := (⟨"java/lang/AbstractStringBuilder", "putStringAt", "(ILjava/lang/String;)V"⟩ : MethodName)) (W hw 81) (W hw 80) (W hw 79) (by decide))) (Cond.privateMethod_at (mvP hZ (W hw 80) (args := #[]))) (mvT hZ (W hw 82)) (by decide) (backOf (W := 0) (ps0_6 l Z a0 hw [] sb sg sv kv vs cs vb kb wl h0 n0 (by omega)  G0 G1 G2 G3 G4 G5 G6 G7 G8 G9 (by first | assumption | rfl) G11 (by assumption) G13 G14 (by omega) G16 G17) hZ (W hw 82) (W hw 40) (by decide) (by decide)) (g := (mkF m 30 #[.val (.ref sb), .val (.ref sg), .val (.int (6 : Int32))] [(.ref sg), (.int (0 : Int32)), (.ref sb)])) rfl (by rw [hml]; rfl) (Steps.refl _) (a := sb) (by rw [e4]; exact q5) q5' (argsL := [(.int (0 : Int32)), (.ref sg)]) (rest := []) (lenOf pd_5 rfl) rfl (by show 2 * 0 + _ ≤ _; exact Nat.le_of_eq rfl) (hb hby d8_30) (fun _ _ => ⟨rfl, e4, (by decide : 0 + 0 ≤ _), (by decide : 0 + 0 ≤ _)⟩)
  dsimp only [Pt.U, Pt.locs, Pt.cells, Pt.slots] at X5 l5 y5 z5 st5 hQ5
  subst l5 y5 z5
  obtain ⟨r6, rfl, Nq5, Kq5, P5_0, P5_1⟩ := hQ5
  have N5 := Fr.app N3 Nq5
  have z5k : h0.size ≤ T5.heap.size := Kq5.1
  have K5 : Keep h0 T5.heap [sb, vb] := K0.trans Kq5 (allS (Or.inl (List.mem_of_getElem? (i := 1) rfl)) all0)
  refine Comes.go st5 ?_
  show Comes p e below _ (T5.setTop (mkF m 33 #[.val (.ref sb), .val (.ref sg), .val (.int (6 : Int32))] []))
  refine Comes.st (fun t k => XS.aloadN X5.here hx rfl (hb hby d8_33) rfl rfl (XS.dup X5.here hx rfl (hb hby d8_34) rfl rfl k)) ?_
  show Comes p e below _ (T5.setTop (mkF m 35 #[.val (.ref sb), .val (.ref sg), .val (.int (6 : Int32))] [(.ref sb), (.ref sb)]))
  have F7 : Fld Z T5.heap sb "java/lang/AbstractStringBuilder" "count" "I" (.int (0 : Int32)) := (G3.keep Kq5 (ninS G16 nin0))
  obtain ⟨T8, X8, e8, st8⟩ := getF X5 hx hZ hown (host := "") (Or.inl (W hw 71)) Via.refl rfl F7 (g := (mkF m 35 #[.val (.ref sb), .val (.ref sg), .val (.int (6 : Int32))] [(.ref sb), (.ref sb)])) rfl rfl (hb hby d8_35)
  refine Comes.st st8 ?_
  show Comes p e below _ (T8.setTop (mkF m 38 #[.val (.ref sb), .val (.ref sg), .val (.int (6 : Int32))] [(.int (0 : Int32)), (.ref sb)]))
  refine Comes.st (fun t k => XS.iloadN X8.here hx rfl (hb hby d8_38) rfl (XS.iadd X8.here hx rfl (hb hby d8_39) rfl k)) ?_
  show Comes p e below _ (T8.setTop (mkF m 40 #[.val (.ref sb), .val (.ref sg), .val (.int (6 : Int32))] [(.int ((0 : Int32) + (6 : Int32))), (.ref sb)]))
  rw [show ((0 : Int32) + (6 : Int32)) = (6 : Int32) from by decide]
  show Comes p e below _ (T8.setTop (mkF m 40 #[.val (.ref sb), .val (.ref sg), .val (.int (6 : Int32))] [(.int (6 : Int32)), (.ref sb)]))
  have F9 : Exa Z T5.heap sb "java/lang/StringBuilder" := (G0.keep Kq5)
  obtain ⟨T10, h10, X10, e10, W10, st10⟩ := putF X8 hx hZ hown (host := "") (Or.inl (W hw 71)) Via.refl e8 F7 F9 (Or.inl (W hw 72)) (W hw 31) (ty := .int) (by decide) rfl rfl (g := (mkF m 40 #[.val (.ref sb), .val (.ref sg), .val (.int (6 : Int32))] [(.int (6 : Int32)), (.ref sb)])) rfl rfl (hb hby d8_40)
  have Fw10 := F7.same W10
  have z10 : h10.size = T5.heap.size := W10.size
  have gn11 : n0 ≤ sb := by omega
  have N10 := Fr.snoc X10 N5 gn11
  have K10 : Keep h0 h10 [sb, vb] := K5.wr W10 (Or.inl (List.mem_of_getElem? (i := 0) rfl))
  refine Comes.st st10 ?_
  show Comes p e below _ (T10.setTop (mkF m 43 #[.val (.ref sb), .val (.ref sg), .val (.int (6 : Int32))] []))
  refine Comes.st (fun t k => XS.aloadN X10.here hx rfl (hb hby d8_43) rfl rfl k) ?_
  show Comes p e below _ (T10.setTop (mkF m 44 #[.val (.ref sb), .val (.ref sg), .val (.int (6 : Int32))] [(.ref sb)]))
  have F12 : Exa Z h10 sb "java/lang/StringBuilder" := (F9.wr W10)
  have F13 : Fld Z h10 sb "java/lang/AbstractStringBuilder" "value" "[B" (.ref vb) := ((G1.keep Kq5 (ninS G16 nin0)).other W10 (Or.inr (slot_ne (Or.inl (W hw 45)) (Or.inl (W hw 72)) (by decide) (t := (.array .byte)) (t' := .int) (by decide) (by decide))))
  have F14 : Fld Z h10 sb "java/lang/AbstractStringBuilder" "coder" "B" (.int (0 : Int32)) := ((G2.keep Kq5 (ninS G16 nin0)).other W10 (Or.inr (slot_ne (Or.inl (W hw 47)) (Or.inl (W hw 72)) (by decide) (t := .byte) (t' := .int) (by decide) (by decide))))
  have F15 : Arv Z h10 vb kb .byte (16 : Int32) r6 (.int (0 : Int32)) := (P5_0.other W10 (Ne.symm G16))
  have F16 : Exa Z h10 vb "[B" := ((G9.keep Kq5).wr W10)
  exact Comes.retV X10 hx Bd.returns (narrow_ref rfl) (Or.inr (Or.inr (Or.inr (Or.inr ⟨rfl, rfl, rfl⟩)))) hlk (hb hby d8_44) e10 ⟨r6, rfl, N10, K10, F12, F13, F14, Fw10, F15, (by assumption), F16⟩ (by decide) (by decide)
def Q_ap0_6 (Z : State) (sb sg sv : Nat) (kv : ClassId) (vs : List Value) (cs : Int32) (vb : Nat) (kb : ClassId) (wl : List Value) (h0 : Heap) (n0 : Nat) (v_ : Option Value) (h : Heap) (L_ : List Loc) : Prop := ∃ (wm : List Value), (v_ = some (.ref sb)) ∧ (Fr n0 L_) ∧ (Keep h0 h [sb, vb]) ∧ (Exa Z h sb "java/lang/StringBuilder") ∧ (Fld Z h sb "java/lang/AbstractStringBuilder" "value" "[B" (.ref vb)) ∧ (Fld Z h sb "java/lang/AbstractStringBuilder" "coder" "B" (.int (0 : Int32))) ∧ (Fld Z h sb "java/lang/AbstractStringBuilder" "count" "I" (.int (6 : Int32))) ∧ (Arv Z h vb kb .byte (16 : Int32) wm (.int (0 : Int32))) ∧ (wm.length = 16) ∧ (Exa Z h vb "[B")
theorem ap0_6 (l : Launch) (Z : State) (a0 : Array Value) (hw : ∀ d ∈ tables_1, d.before a0 Z = true) (ws : List Jvm.Cond) (sb sg sv : Nat) (kv : ClassId) (vs : List Value) (cs : Int32) (vb : Nat) (kb : ClassId) (wl : List Value) (h0 : Heap) (n0 : Nat) (Z0 : n0 ≤ h0.size) (G0 : Exa Z h0 sb "java/lang/StringBuilder") (G1 : Fld Z h0 sb "java/lang/AbstractStringBuilder" "value" "[B" (.ref vb)) (G2 : Fld Z h0 sb "java/lang/AbstractStringBuilder" "coder" "B" (.int (0 : Int32))) (G3 : Fld Z h0 sb "java/lang/AbstractStringBuilder" "count" "I" (.int (0 : Int32))) (G4 : Exa Z h0 sg "java/lang/String") (G5 : Fld Z h0 sg "java/lang/String" "value" "[B" (.ref sv)) (G6 : Fld Z h0 sg "java/lang/String" "coder" "B" (.int (0 : Int32))) (G7 : Arv Z h0 sv kv .byte (6 : Int32) vs (.int (0 : Int32))) (G8 : Arv Z h0 vb kb .byte (16 : Int32) wl (.int (0 : Int32))) (G9 : Exa Z h0 vb "[B") (G10 : wl.length = 16) (G11 : Sta Z Z.heap "java/lang/String" "COMPACT_STRINGS" "Z" (.int cs)) (G12 : ¬ (cs = (0 : Int32))) (G13 : Old Z n0 h0) (G14 : sv ≠ vb) (G15 : n0 ≤ vb) (G16 : sb ≠ vb) (G17 : sg ≠ vb) (G18 : n0 ≤ sb) (G19 : sg ≠ sb) (G20 : sv ≠ sb) :
    MetFree l (⟨"java/lang/StringBuilder", "append", "(Ljava/lang/String;)Ljava/lang/StringBuilder;"⟩ : MethodName) (head1 (Jvm.Cond.code (⟨"java/lang/StringBuilder", "append", "(Ljava/lang/String;)Ljava/lang/StringBuilder;"⟩ : MethodName) jdk_67_method_7_code 2 (some (.object "java/lang/StringBuilder")) :: ws) (Rm 4 0 0 70)) (fun a_ U_ => a_ = #[(.ref sb), (.ref sg)] ∧ Z.Warmed39 U_.vm ∧ U_.heap = h0) (fun _ _ _ _ _ => True) (fun _ U_ o_ V_ => ∃ v_ L_, o_ = .returned v_ ∧ Q_ap0_6 Z sb sg sv kv vs cs vb kb wl h0 n0 v_ V_.heap L_ ∧ FrameEnd U_ o_ V_ L_ (Rm 4 0 0 70).cells (Rm 4 0 0 70).slots) := by
  refine MetFree.of_bodySF (plainFor_of_name pn_7) hisR ?_
  intro p e s m args below meth c s₁ Bd hml0 hP hK
  obtain ⟨rfl, hZ, hh⟩ := hP
  have hx := Bd.exec
  have hby := Bd.bytes
  have hml : c.maxLocals = 2 := hml0
  have hown : s.vm.findClass "java/lang/StringBuilder" = some m.cls := findClass_of_methodNamed Bd.named
  have hnm := (name_of_methodNamed Bd.named Bd.method).1
  have hlk : meth.locks = false := Bd.notSynchronized
  have X0 : Stand p l e (Rm 4 0 0 70) s m #[(.ref sb), (.ref sg)] below meth c s₁ [] 0 0 := Stand.of_body Bd
  have e0 : s₁.heap = h0 := by rw [← hh, Bd.state]; rfl
  have N0 := Fr.nil n0
  have K0 := Keep.refl h0 [sb, vb]
  refine Comes.out (Q := Q_ap0_6 Z sb sg sv kv vs cs vb kb wl h0 n0) (kc := (Rm 4 0 0 70).cells) (ks := (Rm 4 0 0 70).slots) ?_
  refine Comes.cast (ef_ap0_6 m sb sg) ?_
  have lt_sb : sb < h0.size := G0.lt
  have lt_sg : sg < h0.size := G4.lt
  have lt_sv : sv < h0.size := G7.lt
  have lt_vb : vb < h0.size := G8.lt
  show Comes p e below _ (s₁.setTop (mkF m 0 #[.val (.ref sb), .val (.ref sg)] []))
  refine Comes.st (fun t k => XS.aloadN X0.here hx rfl (hb hby d7_0) rfl rfl (XS.aloadN X0.here hx rfl (hb hby d7_1) rfl rfl k)) ?_
  show Comes p e below _ (s₁.setTop (mkF m 2 #[.val (.ref sb), .val (.ref sg)] [(.ref sg), (.ref sb)]))
  obtain ⟨_, _, ⟨T1, L1, k1, n1⟩, -, X1, ⟨Lc1, hQ1, l1, y1, z1⟩, st1⟩ := superBack X0 hx hZ (y := (⟨"java/lang/AbstractStringBuilder", "append", "(Ljava/lang/String;)Ljava/lang/AbstractStringBuilder;"⟩ : MethodName)) hown (W hw 53) (own_same (y := (⟨"java/lang/AbstractStringBuilder", "append", "(Ljava/lang/String;)Ljava/lang/AbstractStringBuilder;"⟩ : MethodName)) (z := (⟨"java/lang/AbstractStringBuilder", "ensureCapacityInternal", "(I)V"⟩ : MethodName)) (W hw 76) rfl (W hw 54) (by decide)) (W hw 54) (W hw 55) (by decide) (backOf (W := 0) (aa0_6 l Z a0 hw [] sb sg sv kv vs cs vb kb wl h0 n0 (by omega)  G0 G1 G2 G3 G4 G5 G6 G7 G8 G9 (by first | assumption | rfl) G11 (by assumption) G13 G14 (by omega) G16 G17 (by omega) G19 G20) hZ (W hw 57) (W hw 40) (by decide) (by decide)) e0 (Ins.self G0) (g := (mkF m 2 #[.val (.ref sb), .val (.ref sg)] [(.ref sg), (.ref sb)])) rfl (by rw [hml]; rfl) (W hw 57) (argsL := [(.ref sg)]) (rest := []) (lenOf pd_6 rfl) rfl (by show 2 * 0 + _ ≤ _; exact Nat.le_of_eq rfl) (hb hby d7_2) (fun _ _ => ⟨rfl, e0, (by decide : 0 + 0 ≤ _), (by decide : 0 + 0 ≤ _)⟩)
  dsimp only [Pt.U, Pt.locs, Pt.cells, Pt.slots] at X1 l1 y1 z1 st1 hQ1
  subst l1 y1 z1
  obtain ⟨r2, rfl, Nq1, Kq1, P1_0, P1_1, P1_2, P1_3, P1_4, P1_5, P1_6⟩ := hQ1
  have N1 := Fr.app N0 Nq1
  have z1k : h0.size ≤ T1.heap.size := Kq1.1
  have K1 : Keep h0 T1.heap [sb, vb] := K0.trans Kq1 (allS (Or.inl (List.mem_of_getElem? (i := 0) rfl)) (allS (Or.inl (List.mem_of_getElem? (i := 1) rfl)) all0))
  refine Comes.go st1 ?_
  show Comes p e below _ (T1.setTop (mkF m 5 #[.val (.ref sb), .val (.ref sg)] [(.ref sb)]))
  refine Comes.st (fun t k => XS.pop X1.here hx rfl (hb hby d7_5) rfl rfl (XS.aloadN X1.here hx rfl (hb hby d7_6) rfl rfl k)) ?_
  show Comes p e below _ (T1.setTop (mkF m 7 #[.val (.ref sb), .val (.ref sg)] [(.ref sb)]))
  exact Comes.retV X1 hx Bd.returns (narrow_ref rfl) (Or.inr (Or.inr (Or.inr (Or.inr ⟨rfl, rfl, rfl⟩)))) hlk (hb hby d7_7) rfl ⟨r2, rfl, N1, K1, P1_0, P1_1, P1_2, P1_3, P1_4, (by assumption), P1_6⟩ (by decide) (by decide)
def Q_gb0_7 (Z : State) (sg vb sv : Nat) (kv : ClassId) (vs : List Value) (cs : Int32) (kb : ClassId) (wl : List Value) (h0 : Heap) (n0 : Nat) (v_ : Option Value) (h : Heap) (L_ : List Loc) : Prop := ∃ (wm : List Value), (v_ = none) ∧ (Fr n0 L_) ∧ (Keep h0 h [vb]) ∧ (Arv Z h vb kb .byte (16 : Int32) wm (.int (0 : Int32))) ∧ (wm.length = 16)
theorem gb0_7 (l : Launch) (Z : State) (a0 : Array Value) (hw : ∀ d ∈ tables_1, d.before a0 Z = true) (ws : List Jvm.Cond) (sg vb sv : Nat) (kv : ClassId) (vs : List Value) (cs : Int32) (kb : ClassId) (wl : List Value) (h0 : Heap) (n0 : Nat) (Z0 : n0 ≤ h0.size) (G0 : Exa Z h0 sg "java/lang/String") (G1 : Fld Z h0 sg "java/lang/String" "value" "[B" (.ref sv)) (G2 : Fld Z h0 sg "java/lang/String" "coder" "B" (.int (0 : Int32))) (G3 : Arv Z h0 sv kv .byte (7 : Int32) vs (.int (0 : Int32))) (G4 : Arv Z h0 vb kb .byte (16 : Int32) wl (.int (0 : Int32))) (G5 : Exa Z h0 vb "[B") (G6 : wl.length = 16) (G7 : Sta Z Z.heap "java/lang/String" "COMPACT_STRINGS" "Z" (.int cs)) (G8 : ¬ (cs = (0 : Int32))) (G9 : Old Z n0 h0) (G10 : sv ≠ vb) (G11 : n0 ≤ vb) :
    MetFree l (⟨"java/lang/String", "getBytes", "([BIB)V"⟩ : MethodName) (head1 (Jvm.Cond.code (⟨"java/lang/String", "getBytes", "([BIB)V"⟩ : MethodName) jdk_42_method_147_code 4 none :: ws) (Rm 1 0 0 27)) (fun a_ U_ => a_ = #[(.ref sg), (.ref vb), (.int (0 : Int32)), (.int (0 : Int32))] ∧ Z.Warmed39 U_.vm ∧ U_.heap = h0) (fun _ _ _ _ _ => True) (fun _ U_ o_ V_ => ∃ v_ L_, o_ = .returned v_ ∧ Q_gb0_7 Z sg vb sv kv vs cs kb wl h0 n0 v_ V_.heap L_ ∧ FrameEnd U_ o_ V_ L_ (Rm 1 0 0 27).cells (Rm 1 0 0 27).slots) := by
  refine MetFree.of_bodySF (plainFor_of_name pn_14) hisR ?_
  intro p e s m args below meth c s₁ Bd hml0 hP hK
  obtain ⟨rfl, hZ, hh⟩ := hP
  have hx := Bd.exec
  have hby := Bd.bytes
  have hml : c.maxLocals = 4 := hml0
  have hown : s.vm.findClass "java/lang/String" = some m.cls := findClass_of_methodNamed Bd.named
  have hnm := (name_of_methodNamed Bd.named Bd.method).1
  have hlk : meth.locks = false := Bd.notSynchronized
  have X0 : Stand p l e (Rm 1 0 0 27) s m #[(.ref sg), (.ref vb), (.int (0 : Int32)), (.int (0 : Int32))] below meth c s₁ [] 0 0 := Stand.of_body Bd
  have e0 : s₁.heap = h0 := by rw [← hh, Bd.state]; rfl
  have N0 := Fr.nil n0
  have K0 := Keep.refl h0 [vb]
  refine Comes.out (Q := Q_gb0_7 Z sg vb sv kv vs cs kb wl h0 n0) (kc := (Rm 1 0 0 27).cells) (ks := (Rm 1 0 0 27).slots) ?_
  refine Comes.cast (ef_gb0_7 m sg vb) ?_
  have lt_sg : sg < h0.size := G0.lt
  have lt_sv : sv < h0.size := G3.lt
  have lt_vb : vb < h0.size := G4.lt
  show Comes p e below _ (s₁.setTop (mkF m 0 #[.val (.ref sg), .val (.ref vb), .val (.int (0 : Int32)), .val (.int (0 : Int32))] []))
  refine Comes.st (fun t k => XS.aloadN X0.here hx rfl (hb hby d14_0) rfl rfl k) ?_
  show Comes p e below _ (s₁.setTop (mkF m 1 #[.val (.ref sg), .val (.ref vb), .val (.int (0 : Int32)), .val (.int (0 : Int32))] [(.ref sg)]))
  obtain ⟨cq1, kq1, q1a, q1b, q1c⟩ := isOf hZ e0 G0
  obtain ⟨_, _, ⟨T1, L1, k1, n1⟩, -, X1, ⟨Lc1, hQ1, l1, y1, z1⟩, st1⟩ := X0.virtualBack hx (y := (⟨"java/lang/String", "coder", "()B"⟩ : MethodName)) (z := (⟨"java/lang/String", "coder", "()B"⟩ : MethodName)) hown (mvT hZ (W hw 64)) (mvT hZ (W hw 65)) (notFace_of_selects (args := #[]) (mvT hZ (W hw 67))) (mvT hZ (W hw 67)) (mvT hZ (W hw 66)) (by decide) (backOf (W := 0) (rm10 l Z a0 hw [] sg cs h0 n0 (by omega)  G2 G7 (by assumption) G9) hZ (W hw 68) (W hw 12) (by decide) (by decide)) q1a q1c (g := (mkF m 1 #[.val (.ref sg), .val (.ref vb), .val (.int (0 : Int32)), .val (.int (0 : Int32))] [(.ref sg)])) rfl (by rw [hml]; rfl) (Steps.refl _) (argsL := []) (rest := []) (lenOf pd_1 rfl) rfl (by show 2 * 0 + _ ≤ _; exact Nat.le_of_eq rfl) (hb hby d14_1) (fun _ _ => ⟨rfl, e0, (by decide : 0 + 0 ≤ _), (by decide : 0 + 0 ≤ _)⟩)
  dsimp only [Pt.U, Pt.locs, Pt.cells, Pt.slots] at X1 l1 y1 z1 st1 hQ1
  subst l1 y1 z1
  obtain ⟨rfl, Nq1, hs1⟩ := hQ1
  have N1 := Fr.app N0 Nq1
  refine Comes.go st1 ?_
  show Comes p e below _ (T1.setTop (mkF m 4 #[.val (.ref sg), .val (.ref vb), .val (.int (0 : Int32)), .val (.int (0 : Int32))] [(.int (0 : Int32))]))
  refine Comes.st (fun t k => XS.iloadN X1.here hx rfl (hb hby d14_4) rfl k) ?_
  show Comes p e below _ (T1.setTop (mkF m 5 #[.val (.ref sg), .val (.ref vb), .val (.int (0 : Int32)), .val (.int (0 : Int32))] [(.int (0 : Int32)), (.int (0 : Int32))]))
  have hc5_2 : (0 : Int32) = (0 : Int32) := by decide
  refine Comes.st (fun t k => XS.icmpNo X1.here hx rfl (hb hby d14_5) rfl (teq hc5_2).2 (XS.aloadN X1.here hx rfl (hb hby d14_8) rfl rfl k)) ?_
  show Comes p e below _ (T1.setTop (mkF m 9 #[.val (.ref sg), .val (.ref vb), .val (.int (0 : Int32)), .val (.int (0 : Int32))] [(.ref sg)]))
  obtain ⟨T3, X3, e3, st3⟩ := getF X1 hx hZ hown (host := "") (Or.inl (W hw 63)) Via.refl hs1 G1 (g := (mkF m 9 #[.val (.ref sg), .val (.ref vb), .val (.int (0 : Int32)), .val (.int (0 : Int32))] [(.ref sg)])) rfl rfl (hb hby d14_9)
  refine Comes.st st3 ?_
  show Comes p e below _ (T3.setTop (mkF m 12 #[.val (.ref sg), .val (.ref vb), .val (.int (0 : Int32)), .val (.int (0 : Int32))] [(.ref sv)]))
  refine Comes.st (fun t k => XS.iconst X3.here hx rfl (hb hby d14_12) (XS.aloadN X3.here hx rfl (hb hby d14_13) rfl rfl (XS.iloadN X3.here hx rfl (hb hby d14_14) rfl (XS.iloadN X3.here hx rfl (hb hby d14_15) rfl (XS.ishl X3.here hx rfl (hb hby d14_16) rfl k))))) ?_
  show Comes p e below _ (T3.setTop (mkF m 17 #[.val (.ref sg), .val (.ref vb), .val (.int (0 : Int32)), .val (.int (0 : Int32))] [(.int ((0 : Int32) <<< ((0 : Int32) &&& 31))), (.ref vb), (.int (0 : Int32)), (.ref sv)]))
  rw [show ((0 : Int32) <<< ((0 : Int32) &&& 31)) = (0 : Int32) from by decide]
  show Comes p e below _ (T3.setTop (mkF m 17 #[.val (.ref sg), .val (.ref vb), .val (.int (0 : Int32)), .val (.int (0 : Int32))] [(.int (0 : Int32)), (.ref vb), (.int (0 : Int32)), (.ref sv)]))
  refine Comes.st (fun t k => XS.aloadN X3.here hx rfl (hb hby d14_17) rfl rfl k) ?_
  show Comes p e below _ (T3.setTop (mkF m 18 #[.val (.ref sg), .val (.ref vb), .val (.int (0 : Int32)), .val (.int (0 : Int32))] [(.ref sg), (.int (0 : Int32)), (.ref vb), (.int (0 : Int32)), (.ref sv)]))
  obtain ⟨T4, X4, e4, st4⟩ := getF X3 hx hZ hown (host := "") (Or.inl (W hw 63)) Via.refl e3 G1 (g := (mkF m 18 #[.val (.ref sg), .val (.ref vb), .val (.int (0 : Int32)), .val (.int (0 : Int32))] [(.ref sg), (.int (0 : Int32)), (.ref vb), (.int (0 : Int32)), (.ref sv)])) rfl rfl (hb hby d14_18)
  refine Comes.st st4 ?_
  show Comes p e below _ (T4.setTop (mkF m 21 #[.val (.ref sg), .val (.ref vb), .val (.int (0 : Int32)), .val (.int (0 : Int32))] [(.ref sv), (.int (0 : Int32)), (.ref vb), (.int (0 : Int32)), (.ref sv)]))
  obtain ⟨cl5, Ar5, -, S5, Ng5, -, -⟩ := id G3
  refine Comes.st (fun t k => X4.arraylength hx (by rw [e4]; exact Ar5.1) (State.isArrayOf_alike hZ.alike Ar5.2.1) (g := (mkF m 21 #[.val (.ref sg), .val (.ref vb), .val (.int (0 : Int32)), .val (.int (0 : Int32))] [(.ref sv), (.int (0 : Int32)), (.ref vb), (.int (0 : Int32)), (.ref sv)])) rfl rfl (hb hby d14_21) _ k) ?_
  rw [len_of S5 Ng5]
  show Comes p e below _ (T4.setTop (mkF m 22 #[.val (.ref sg), .val (.ref vb), .val (.int (0 : Int32)), .val (.int (0 : Int32))] [(.int (7 : Int32)), (.int (0 : Int32)), (.ref vb), (.int (0 : Int32)), (.ref sv)]))
  obtain ⟨T6, h6, L6, X6, e6, N6, Kq6, V6, st6⟩ := cpA X4 hx hZ hown (W hw 94) (W hw 97) (W hw 95) (W hw 96) e4 G3 G4 (Or.inl ⟨rfl, rfl⟩) (by decide) (by decide) (by decide) (by decide) (by decide) rfl (by rw [G6]; decide) N1 (by omega) (g := (mkF m 22 #[.val (.ref sg), .val (.ref vb), .val (.int (0 : Int32)), .val (.int (0 : Int32))] [(.int (7 : Int32)), (.int (0 : Int32)), (.ref vb), (.int (0 : Int32)), (.ref sv)])) rfl (by rw [hml]; rfl) (rest := []) rfl (hb hby d14_22) (by decide) (W := 0) (by show 2 * 0 + _ ≤ _; exact Nat.le_of_eq rfl) (by decide)
  have z6 : h0.size ≤ h6.size := Kq6.1
  have K6 : Keep h0 h6 [vb] := K0.trans Kq6 (allS (Or.inl (List.mem_of_getElem? (i := 0) rfl)) all0)
  obtain ⟨w6, V6', hl6⟩ : ∃ w_ : List Value, Arv Z h6 vb kb .byte (16 : Int32) w_ (.int (0 : Int32)) ∧ w_.length = 16 := ⟨_, V6, by simp [G6]⟩
  refine Comes.st st6 ?_
  show Comes p e below _ (T6.setTop (mkF m 25 #[.val (.ref sg), .val (.ref vb), .val (.int (0 : Int32)), .val (.int (0 : Int32))] []))
  refine Comes.st (fun t k => XS.goto X6.here hx rfl (pc0 := 25) (pc' := 43) rfl (hb hby d14_25) (by decide) (by decide) k) ?_
  show Comes p e below _ (T6.setTop (mkF m 43 #[.val (.ref sg), .val (.ref vb), .val (.int (0 : Int32)), .val (.int (0 : Int32))] []))
  exact Comes.ret0 X6 hx Bd.returns hlk (hb hby d14_43) e6 ⟨w6, rfl, N6, K6, V6', (by assumption)⟩ (by decide) (by decide)
def Q_ps0_7 (Z : State) (sb sg sv : Nat) (kv : ClassId) (vs : List Value) (cs : Int32) (vb : Nat) (kb : ClassId) (wl : List Value) (h0 : Heap) (n0 : Nat) (v_ : Option Value) (h : Heap) (L_ : List Loc) : Prop := ∃ (wm : List Value), (v_ = none) ∧ (Fr n0 L_) ∧ (Keep h0 h [vb]) ∧ (Arv Z h vb kb .byte (16 : Int32) wm (.int (0 : Int32))) ∧ (wm.length = 16)
theorem ps0_7 (l : Launch) (Z : State) (a0 : Array Value) (hw : ∀ d ∈ tables_1, d.before a0 Z = true) (ws : List Jvm.Cond) (sb sg sv : Nat) (kv : ClassId) (vs : List Value) (cs : Int32) (vb : Nat) (kb : ClassId) (wl : List Value) (h0 : Heap) (n0 : Nat) (Z0 : n0 ≤ h0.size) (G0 : Exa Z h0 sb "java/lang/StringBuilder") (G1 : Fld Z h0 sb "java/lang/AbstractStringBuilder" "value" "[B" (.ref vb)) (G2 : Fld Z h0 sb "java/lang/AbstractStringBuilder" "coder" "B" (.int (0 : Int32))) (G3 : Fld Z h0 sb "java/lang/AbstractStringBuilder" "count" "I" (.int (0 : Int32))) (G4 : Exa Z h0 sg "java/lang/String") (G5 : Fld Z h0 sg "java/lang/String" "value" "[B" (.ref sv)) (G6 : Fld Z h0 sg "java/lang/String" "coder" "B" (.int (0 : Int32))) (G7 : Arv Z h0 sv kv .byte (7 : Int32) vs (.int (0 : Int32))) (G8 : Arv Z h0 vb kb .byte (16 : Int32) wl (.int (0 : Int32))) (G9 : Exa Z h0 vb "[B") (G10 : wl.length = 16) (G11 : Sta Z Z.heap "java/lang/String" "COMPACT_STRINGS" "Z" (.int cs)) (G12 : ¬ (cs = (0 : Int32))) (G13 : Old Z n0 h0) (G14 : sv ≠ vb) (G15 : n0 ≤ vb) (G16 : sb ≠ vb) (G17 : sg ≠ vb) :
    MetFree l (⟨"java/lang/AbstractStringBuilder", "putStringAt", "(ILjava/lang/String;)V"⟩ : MethodName) (head1 (Jvm.Cond.code (⟨"java/lang/AbstractStringBuilder", "putStringAt", "(ILjava/lang/String;)V"⟩ : MethodName) jdk_68_method_73_code 3 none :: ws) (Rm 2 0 0 42)) (fun a_ U_ => a_ = #[(.ref sb), (.int (0 : Int32)), (.ref sg)] ∧ Z.Warmed39 U_.vm ∧ U_.heap = h0) (fun _ _ _ _ _ => True) (fun _ U_ o_ V_ => ∃ v_ L_, o_ = .returned v_ ∧ Q_ps0_7 Z sb sg sv kv vs cs vb kb wl h0 n0 v_ V_.heap L_ ∧ FrameEnd U_ o_ V_ L_ (Rm 2 0 0 42).cells (Rm 2 0 0 42).slots) := by
  refine MetFree.of_bodySF (plainFor_of_name pn_12) hisR ?_
  intro p e s m args below meth c s₁ Bd hml0 hP hK
  obtain ⟨rfl, hZ, hh⟩ := hP
  have hx := Bd.exec
  have hby := Bd.bytes
  have hml : c.maxLocals = 3 := hml0
  have hown : s.vm.findClass "java/lang/AbstractStringBuilder" = some m.cls := findClass_of_methodNamed Bd.named
  have hnm := (name_of_methodNamed Bd.named Bd.method).1
  have hlk : meth.locks = false := Bd.notSynchronized
  have X0 : Stand p l e (Rm 2 0 0 42) s m #[(.ref sb), (.int (0 : Int32)), (.ref sg)] below meth c s₁ [] 0 0 := Stand.of_body Bd
  have e0 : s₁.heap = h0 := by rw [← hh, Bd.state]; rfl
  have N0 := Fr.nil n0
  have K0 := Keep.refl h0 [vb]
  refine Comes.out (Q := Q_ps0_7 Z sb sg sv kv vs cs vb kb wl h0 n0) (kc := (Rm 2 0 0 42).cells) (ks := (Rm 2 0 0 42).slots) ?_
  refine Comes.cast (ef_ps0_7 m sb sg) ?_
  have lt_sb : sb < h0.size := G0.lt
  have lt_sg : sg < h0.size := G4.lt
  have lt_sv : sv < h0.size := G7.lt
  have lt_vb : vb < h0.size := G8.lt
  show Comes p e below _ (s₁.setTop (mkF m 0 #[.val (.ref sb), .val (.int (0 : Int32)), .val (.ref sg)] []))
  refine Comes.st (fun t k => XS.aloadN X0.here hx rfl (hb hby d12_0) rfl rfl (XS.aloadN X0.here hx rfl (hb hby d12_1) rfl rfl k)) ?_
  show Comes p e below _ (s₁.setTop (mkF m 2 #[.val (.ref sb), .val (.int (0 : Int32)), .val (.ref sg)] [(.ref sg), (.ref sb)]))
  obtain ⟨cq1, q1, q1'⟩ := G0.cell
  obtain ⟨_, _, ⟨T1, L1, k1, n1⟩, -, X1, ⟨Lc1, hQ1, l1, y1, z1⟩, st1⟩ := X0.privateBack hx (y := (⟨"java/lang/AbstractStringBuilder", "inflateIfNeededFor", "(Ljava/lang/String;)V"⟩ : MethodName)) hown (mvT hZ (W hw 83)) (mvT hZ (W hw 84)) (mvT hZ (own_selq (y := (⟨"java/lang/AbstractStringBuilder", "inflateIfNeededFor", "(Ljava/lang/String;)V"⟩ : MethodName)) (W hw 86) (W hw 85) (W hw 84) (by decide))) (Cond.privateMethod_at (mvP hZ (W hw 85) (args := #[]))) (mvT hZ (W hw 87)) (by decide) (backOf (W := 0) (rm13 l Z a0 hw [] sb sg cs h0 n0 (by omega)  G0 G2 G4 G6 G11 (by assumption) G13) hZ (W hw 87) (W hw 40) (by decide) (by decide)) (g := (mkF m 2 #[.val (.ref sb), .val (.int (0 : Int32)), .val (.ref sg)] [(.ref sg), (.ref sb)])) rfl (by rw [hml]; rfl) (Steps.refl _) (a := sb) (by rw [e0]; exact q1) q1' (argsL := [(.ref sg)]) (rest := []) (lenOf pd_2 rfl) rfl (by show 2 * 0 + _ ≤ _; exact Nat.le_of_eq rfl) (hb hby d12_2) (fun _ _ => ⟨rfl, e0, (by decide : 0 + 0 ≤ _), (by decide : 0 + 0 ≤ _)⟩)
  dsimp only [Pt.U, Pt.locs, Pt.cells, Pt.slots] at X1 l1 y1 z1 st1 hQ1
  subst l1 y1 z1
  obtain ⟨rfl, Nq1, hs1⟩ := hQ1
  have N1 := Fr.app N0 Nq1
  refine Comes.go st1 ?_
  show Comes p e below _ (T1.setTop (mkF m 5 #[.val (.ref sb), .val (.int (0 : Int32)), .val (.ref sg)] []))
  refine Comes.st (fun t k => XS.aloadN X1.here hx rfl (hb hby d12_5) rfl rfl (XS.aloadN X1.here hx rfl (hb hby d12_6) rfl rfl k)) ?_
  show Comes p e below _ (T1.setTop (mkF m 7 #[.val (.ref sb), .val (.int (0 : Int32)), .val (.ref sg)] [(.ref sb), (.ref sg)]))
  obtain ⟨T2, X2, e2, st2⟩ := getF X1 hx hZ hown (host := "") (Or.inl (W hw 44)) Via.refl hs1 G1 (g := (mkF m 7 #[.val (.ref sb), .val (.int (0 : Int32)), .val (.ref sg)] [(.ref sb), (.ref sg)])) rfl rfl (hb hby d12_7)
  refine Comes.st st2 ?_
  show Comes p e below _ (T2.setTop (mkF m 10 #[.val (.ref sb), .val (.int (0 : Int32)), .val (.ref sg)] [(.ref vb), (.ref sg)]))
  refine Comes.st (fun t k => XS.iloadN X2.here hx rfl (hb hby d12_10) rfl (XS.aloadN X2.here hx rfl (hb hby d12_11) rfl rfl k)) ?_
  show Comes p e below _ (T2.setTop (mkF m 12 #[.val (.ref sb), .val (.int (0 : Int32)), .val (.ref sg)] [(.ref sb), (.int (0 : Int32)), (.ref vb), (.ref sg)]))
  obtain ⟨T3, X3, e3, st3⟩ := getF X2 hx hZ hown (host := "") (Or.inl (W hw 46)) Via.refl e2 G2 (g := (mkF m 12 #[.val (.ref sb), .val (.int (0 : Int32)), .val (.ref sg)] [(.ref sb), (.int (0 : Int32)), (.ref vb), (.ref sg)])) rfl rfl (hb hby d12_12)
  refine Comes.st st3 ?_
  show Comes p e below _ (T3.setTop (mkF m 15 #[.val (.ref sb), .val (.int (0 : Int32)), .val (.ref sg)] [(.int (0 : Int32)), (.int (0 : Int32)), (.ref vb), (.ref sg)]))
  obtain ⟨cq4, kq4, q4a, q4b, q4c⟩ := isOf hZ e3 G4
  obtain ⟨_, _, ⟨T4, L4, k4, n4⟩, -, X4, ⟨Lc4, hQ4, l4, y4, z4⟩, st4⟩ := X3.virtualBack hx (y := (⟨"java/lang/String", "getBytes", "([BIB)V"⟩ : MethodName)) (z := (⟨"java/lang/String", "getBytes", "([BIB)V"⟩ : MethodName)) hown (mvT hZ (W hw 89)) (mvT hZ (W hw 90)) (notFace_of_selects (args := #[]) (mvT hZ (W hw 92))) (mvT hZ (W hw 92)) (mvT hZ (W hw 91)) (by decide) (backOf (W := 0) (gb0_7 l Z a0 hw [] sg vb sv kv vs cs kb wl h0 n0 (by omega)  G4 G5 G6 G7 G8 G9 (by first | assumption | rfl) G11 (by assumption) G13 G14 (by omega)) hZ (W hw 93) (W hw 12) (by decide) (by decide)) q4a q4c (g := (mkF m 15 #[.val (.ref sb), .val (.int (0 : Int32)), .val (.ref sg)] [(.int (0 : Int32)), (.int (0 : Int32)), (.ref vb), (.ref sg)])) rfl (by rw [hml]; rfl) (Steps.refl _) (argsL := [(.ref vb), (.int (0 : Int32)), (.int (0 : Int32))]) (rest := []) (lenOf pd_3 rfl) rfl (by show 2 * 0 + _ ≤ _; exact Nat.le_of_eq rfl) (hb hby d12_15) (fun _ _ => ⟨rfl, e3, (by decide : 0 + 0 ≤ _), (by decide : 0 + 0 ≤ _)⟩)
  dsimp only [Pt.U, Pt.locs, Pt.cells, Pt.slots] at X4 l4 y4 z4 st4 hQ4
  subst l4 y4 z4
  obtain ⟨r5, rfl, Nq4, Kq4, P4_0, P4_1⟩ := hQ4
  have N4 := Fr.app N1 Nq4
  have z4k : h0.size ≤ T4.heap.size := Kq4.1
  have K4 : Keep h0 T4.heap [vb] := K0.trans Kq4 (allS (Or.inl (List.mem_of_getElem? (i := 0) rfl)) all0)
  refine Comes.go st4 ?_
  show Comes p e below _ (T4.setTop (mkF m 18 #[.val (.ref sb), .val (.int (0 : Int32)), .val (.ref sg)] []))
  exact Comes.ret0 X4 hx Bd.returns hlk (hb hby d12_18) rfl ⟨r5, rfl, N4, K4, P4_0, (by assumption)⟩ (by decide) (by decide)
def Q_aa0_7 (Z : State) (sb sg sv : Nat) (kv : ClassId) (vs : List Value) (cs : Int32) (vb : Nat) (kb : ClassId) (wl : List Value) (h0 : Heap) (n0 : Nat) (v_ : Option Value) (h : Heap) (L_ : List Loc) : Prop := ∃ (wm : List Value), (v_ = some (.ref sb)) ∧ (Fr n0 L_) ∧ (Keep h0 h [sb, vb]) ∧ (Exa Z h sb "java/lang/StringBuilder") ∧ (Fld Z h sb "java/lang/AbstractStringBuilder" "value" "[B" (.ref vb)) ∧ (Fld Z h sb "java/lang/AbstractStringBuilder" "coder" "B" (.int (0 : Int32))) ∧ (Fld Z h sb "java/lang/AbstractStringBuilder" "count" "I" (.int (7 : Int32))) ∧ (Arv Z h vb kb .byte (16 : Int32) wm (.int (0 : Int32))) ∧ (wm.length = 16) ∧ (Exa Z h vb "[B")
theorem aa0_7 (l : Launch) (Z : State) (a0 : Array Value) (hw : ∀ d ∈ tables_1, d.before a0 Z = true) (ws : List Jvm.Cond) (sb sg sv : Nat) (kv : ClassId) (vs : List Value) (cs : Int32) (vb : Nat) (kb : ClassId) (wl : List Value) (h0 : Heap) (n0 : Nat) (Z0 : n0 ≤ h0.size) (G0 : Exa Z h0 sb "java/lang/StringBuilder") (G1 : Fld Z h0 sb "java/lang/AbstractStringBuilder" "value" "[B" (.ref vb)) (G2 : Fld Z h0 sb "java/lang/AbstractStringBuilder" "coder" "B" (.int (0 : Int32))) (G3 : Fld Z h0 sb "java/lang/AbstractStringBuilder" "count" "I" (.int (0 : Int32))) (G4 : Exa Z h0 sg "java/lang/String") (G5 : Fld Z h0 sg "java/lang/String" "value" "[B" (.ref sv)) (G6 : Fld Z h0 sg "java/lang/String" "coder" "B" (.int (0 : Int32))) (G7 : Arv Z h0 sv kv .byte (7 : Int32) vs (.int (0 : Int32))) (G8 : Arv Z h0 vb kb .byte (16 : Int32) wl (.int (0 : Int32))) (G9 : Exa Z h0 vb "[B") (G10 : wl.length = 16) (G11 : Sta Z Z.heap "java/lang/String" "COMPACT_STRINGS" "Z" (.int cs)) (G12 : ¬ (cs = (0 : Int32))) (G13 : Old Z n0 h0) (G14 : sv ≠ vb) (G15 : n0 ≤ vb) (G16 : sb ≠ vb) (G17 : sg ≠ vb) (G18 : n0 ≤ sb) (G19 : sg ≠ sb) (G20 : sv ≠ sb) :
    MetFree l (⟨"java/lang/AbstractStringBuilder", "append", "(Ljava/lang/String;)Ljava/lang/AbstractStringBuilder;"⟩ : MethodName) (head1 (Jvm.Cond.code (⟨"java/lang/AbstractStringBuilder", "append", "(Ljava/lang/String;)Ljava/lang/AbstractStringBuilder;"⟩ : MethodName) jdk_68_method_22_code 3 (some (.object "java/lang/AbstractStringBuilder")) :: ws) (Rm 3 0 0 56)) (fun a_ U_ => a_ = #[(.ref sb), (.ref sg)] ∧ Z.Warmed39 U_.vm ∧ U_.heap = h0) (fun _ _ _ _ _ => True) (fun _ U_ o_ V_ => ∃ v_ L_, o_ = .returned v_ ∧ Q_aa0_7 Z sb sg sv kv vs cs vb kb wl h0 n0 v_ V_.heap L_ ∧ FrameEnd U_ o_ V_ L_ (Rm 3 0 0 56).cells (Rm 3 0 0 56).slots) := by
  refine MetFree.of_bodySF (plainFor_of_name pn_8) hisR ?_
  intro p e s m args below meth c s₁ Bd hml0 hP hK
  obtain ⟨rfl, hZ, hh⟩ := hP
  have hx := Bd.exec
  have hby := Bd.bytes
  have hml : c.maxLocals = 3 := hml0
  have hown : s.vm.findClass "java/lang/AbstractStringBuilder" = some m.cls := findClass_of_methodNamed Bd.named
  have hnm := (name_of_methodNamed Bd.named Bd.method).1
  have hlk : meth.locks = false := Bd.notSynchronized
  have X0 : Stand p l e (Rm 3 0 0 56) s m #[(.ref sb), (.ref sg)] below meth c s₁ [] 0 0 := Stand.of_body Bd
  have e0 : s₁.heap = h0 := by rw [← hh, Bd.state]; rfl
  have N0 := Fr.nil n0
  have K0 := Keep.refl h0 [sb, vb]
  refine Comes.out (Q := Q_aa0_7 Z sb sg sv kv vs cs vb kb wl h0 n0) (kc := (Rm 3 0 0 56).cells) (ks := (Rm 3 0 0 56).slots) ?_
  refine Comes.cast (ef_aa0_7 m sb sg) ?_
  have lt_sb : sb < h0.size := G0.lt
  have lt_sg : sg < h0.size := G4.lt
  have lt_sv : sv < h0.size := G7.lt
  have lt_vb : vb < h0.size := G8.lt
  show Comes p e below _ (s₁.setTop (mkF m 0 #[.val (.ref sb), .val (.ref sg), .unset] []))
  refine Comes.st (fun t k => XS.aloadN X0.here hx rfl (hb hby d8_0) rfl rfl (XS.ifnonnullYes X0.here hx rfl (pc0 := 1) (pc' := 9) rfl (hb hby d8_1) rfl (by decide) (by decide) (XS.aloadN X0.here hx rfl (hb hby d8_9) rfl rfl k))) ?_
  show Comes p e below _ (s₁.setTop (mkF m 10 #[.val (.ref sb), .val (.ref sg), .unset] [(.ref sg)]))
  obtain ⟨cq1, kq1, q1a, q1b, q1c⟩ := isOf hZ e0 G4
  obtain ⟨_, _, ⟨T1, L1, k1, n1⟩, -, X1, ⟨Lc1, hQ1, l1, y1, z1⟩, st1⟩ := X0.virtualBack hx (y := (⟨"java/lang/String", "length", "()I"⟩ : MethodName)) (z := (⟨"java/lang/String", "length", "()I"⟩ : MethodName)) hown (mvT hZ (W hw 58)) (mvT hZ (W hw 59)) (notFace_of_selects (args := #[]) (mvT hZ (W hw 61))) (mvT hZ (W hw 61)) (mvT hZ (W hw 60)) (by decide) (backOf (W := 0) (len7 l Z a0 hw [] sg sv kv vs cs h0 n0 (by omega)  G4 G5 G6 G7 G11 (by assumption) G13) hZ (W hw 62) (W hw 12) (by decide) (by decide)) q1a q1c (g := (mkF m 10 #[.val (.ref sb), .val (.ref sg), .unset] [(.ref sg)])) rfl (by rw [hml]; rfl) (Steps.refl _) (argsL := []) (rest := []) (lenOf pd_4 rfl) rfl (by show 2 * 0 + _ ≤ _; exact Nat.le_of_eq rfl) (hb hby d8_10) (fun _ _ => ⟨rfl, e0, (by decide : 0 + 0 ≤ _), (by decide : 0 + 0 ≤ _)⟩)
  dsimp only [Pt.U, Pt.locs, Pt.cells, Pt.slots] at X1 l1 y1 z1 st1 hQ1
  subst l1 y1 z1
  obtain ⟨rfl, Nq1, hs1⟩ := hQ1
  have N1 := Fr.app N0 Nq1
  refine Comes.go st1 ?_
  show Comes p e below _ (T1.setTop (mkF m 13 #[.val (.ref sb), .val (.ref sg), .unset] [(.int (7 : Int32))]))
  refine Comes.st (fun t k => XS.istoreN X1.here hx rfl (hb hby d8_13) rfl (l' := #[.val (.ref sb), .val (.ref sg), .val (.int (7 : Int32))]) rfl (XS.aloadN X1.here hx rfl (hb hby d8_14) rfl rfl (XS.aloadN X1.here hx rfl (hb hby d8_15) rfl rfl k))) ?_
  show Comes p e below _ (T1.setTop (mkF m 16 #[.val (.ref sb), .val (.ref sg), .val (.int (7 : Int32))] [(.ref sb), (.ref sb)]))
  obtain ⟨T2, X2, e2, st2⟩ := getF X1 hx hZ hown (host := "") (Or.inl (W hw 71)) Via.refl hs1 G3 (g := (mkF m 16 #[.val (.ref sb), .val (.ref sg), .val (.int (7 : Int32))] [(.ref sb), (.ref sb)])) rfl rfl (hb hby d8_16)
  refine Comes.st st2 ?_
  show Comes p e below _ (T2.setTop (mkF m 19 #[.val (.ref sb), .val (.ref sg), .val (.int (7 : Int32))] [(.int (0 : Int32)), (.ref sb)]))
  refine Comes.st (fun t k => XS.iloadN X2.here hx rfl (hb hby d8_19) rfl (XS.iadd X2.here hx rfl (hb hby d8_20) rfl k)) ?_
  show Comes p e below _ (T2.setTop (mkF m 21 #[.val (.ref sb), .val (.ref sg), .val (.int (7 : Int32))] [(.int ((0 : Int32) + (7 : Int32))), (.ref sb)]))
  rw [show ((0 : Int32) + (7 : Int32)) = (7 : Int32) from by decide]
  show Comes p e below _ (T2.setTop (mkF m 21 #[.val (.ref sb), .val (.ref sg), .val (.int (7 : Int32))] [(.int (7 : Int32)), (.ref sb)]))
  obtain ⟨cq3, q3, q3'⟩ := G0.cell
  obtain ⟨_, _, ⟨T3, L3, k3, n3⟩, -, X3, ⟨Lc3, hQ3, l3, y3, z3⟩, st3⟩ := X2.privateBack hx (y := (⟨"java/lang/AbstractStringBuilder", "ensureCapacityInternal", "(I)V"⟩ : MethodName)) hown (mvT hZ (W hw 73)) (mvT hZ (W hw 74)) (mvT hZ (own_selq (y := (⟨"java/lang/AbstractStringBuilder", "ensureCapacityInternal", "(I)V"⟩ : MethodName)) (W hw 76) (W hw 75) (W hw 74) (by decide))) (Cond.privateMethod_at (mvP hZ (W hw 75) (args := #[]))) (mvT hZ (W hw 77)) (by decide) (backOf (W := 0) (ens7 l Z a0 hw [] sb vb kb wl ((0 : Int32)) h0 n0 (by omega)  G0 G1 G2 G3 G8) hZ (W hw 77) (W hw 40) (by decide) (by decide)) (g := (mkF m 21 #[.val (.ref sb), .val (.ref sg), .val (.int (7 : Int32))] [(.int (7 : Int32)), (.ref sb)])) rfl (by rw [hml]; rfl) (Steps.refl _) (a := sb) (by rw [e2]; exact q3) q3' (argsL := [(.int (7 : Int32))]) (rest := []) (lenOf pd_0 rfl) rfl (by show 2 * 0 + _ ≤ _; exact Nat.le_of_eq rfl) (hb hby d8_21) (fun _ _ => ⟨rfl, e2, (by decide : 0 + 0 ≤ _), (by decide : 0 + 0 ≤ _)⟩)
  dsimp only [Pt.U, Pt.locs, Pt.cells, Pt.slots] at X3 l3 y3 z3 st3 hQ3
  subst l3 y3 z3
  obtain ⟨rfl, Nq3, hs3⟩ := hQ3
  have N3 := Fr.app N1 Nq3
  refine Comes.go st3 ?_
  show Comes p e below _ (T3.setTop (mkF m 24 #[.val (.ref sb), .val (.ref sg), .val (.int (7 : Int32))] []))
  refine Comes.st (fun t k => XS.aloadN X3.here hx rfl (hb hby d8_24) rfl rfl (XS.aloadN X3.here hx rfl (hb hby d8_25) rfl rfl k)) ?_
  show Comes p e below _ (T3.setTop (mkF m 26 #[.val (.ref sb), .val (.ref sg), .val (.int (7 : Int32))] [(.ref sb), (.ref sb)]))
  obtain ⟨T4, X4, e4, st4⟩ := getF X3 hx hZ hown (host := "") (Or.inl (W hw 71)) Via.refl hs3 G3 (g := (mkF m 26 #[.val (.ref sb), .val (.ref sg), .val (.int (7 : Int32))] [(.ref sb), (.ref sb)])) rfl rfl (hb hby d8_26)
  refine Comes.st st4 ?_
  show Comes p e below _ (T4.setTop (mkF m 29 #[.val (.ref sb), .val (.ref sg), .val (.int (7 : Int32))] [(.int (0 : Int32)), (.ref sb)]))
  refine Comes.st (fun t k => XS.aloadN X4.here hx rfl (hb hby d8_29) rfl rfl k) ?_
  show Comes p e below _ (T4.setTop (mkF m 30 #[.val (.ref sb), .val (.ref sg), .val (.int (7 : Int32))] [(.ref sg), (.int (0 : Int32)), (.ref sb)]))
  obtain ⟨cq5, q5, q5'⟩ := G0.cell
  obtain ⟨_, _, ⟨T5, L5, k5, n5⟩, -, X5, ⟨Lc5, hQ5, l5, y5, z5⟩, st5⟩ := X4.privateBack hx (y := (⟨"java/lang/AbstractStringBuilder", "putStringAt", "(ILjava/lang/String;)V"⟩ : MethodName)) hown (mvT hZ (W hw 78)) (mvT hZ (W hw 79)) (mvT hZ (own_selq (y := (⟨"java/lang/AbstractStringBuilder", "putStringAt", "(ILjava/lang/String;)V"⟩ : MethodName)) (W hw 81) (W hw 80) (W hw 79) (by decide))) (Cond.privateMethod_at (mvP hZ (W hw 80) (args := #[]))) (mvT hZ (W hw 82)) (by decide) (backOf (W := 0) (ps0_7 l Z a0 hw [] sb sg sv kv vs cs vb kb wl h0 n0 (by omega)  G0 G1 G2 G3 G4 G5 G6 G7 G8 G9 (by first | assumption | rfl) G11 (by assumption) G13 G14 (by omega) G16 G17) hZ (W hw 82) (W hw 40) (by decide) (by decide)) (g := (mkF m 30 #[.val (.ref sb), .val (.ref sg), .val (.int (7 : Int32))] [(.ref sg), (.int (0 : Int32)), (.ref sb)])) rfl (by rw [hml]; rfl) (Steps.refl _) (a := sb) (by rw [e4]; exact q5) q5' (argsL := [(.int (0 : Int32)), (.ref sg)]) (rest := []) (lenOf pd_5 rfl) rfl (by show 2 * 0 + _ ≤ _; exact Nat.le_of_eq rfl) (hb hby d8_30) (fun _ _ => ⟨rfl, e4, (by decide : 0 + 0 ≤ _), (by decide : 0 + 0 ≤ _)⟩)
  dsimp only [Pt.U, Pt.locs, Pt.cells, Pt.slots] at X5 l5 y5 z5 st5 hQ5
  subst l5 y5 z5
  obtain ⟨r6, rfl, Nq5, Kq5, P5_0, P5_1⟩ := hQ5
  have N5 := Fr.app N3 Nq5
  have z5k : h0.size ≤ T5.heap.size := Kq5.1
  have K5 : Keep h0 T5.heap [sb, vb] := K0.trans Kq5 (allS (Or.inl (List.mem_of_getElem? (i := 1) rfl)) all0)
  refine Comes.go st5 ?_
  show Comes p e below _ (T5.setTop (mkF m 33 #[.val (.ref sb), .val (.ref sg), .val (.int (7 : Int32))] []))
  refine Comes.st (fun t k => XS.aloadN X5.here hx rfl (hb hby d8_33) rfl rfl (XS.dup X5.here hx rfl (hb hby d8_34) rfl rfl k)) ?_
  show Comes p e below _ (T5.setTop (mkF m 35 #[.val (.ref sb), .val (.ref sg), .val (.int (7 : Int32))] [(.ref sb), (.ref sb)]))
  have F7 : Fld Z T5.heap sb "java/lang/AbstractStringBuilder" "count" "I" (.int (0 : Int32)) := (G3.keep Kq5 (ninS G16 nin0))
  obtain ⟨T8, X8, e8, st8⟩ := getF X5 hx hZ hown (host := "") (Or.inl (W hw 71)) Via.refl rfl F7 (g := (mkF m 35 #[.val (.ref sb), .val (.ref sg), .val (.int (7 : Int32))] [(.ref sb), (.ref sb)])) rfl rfl (hb hby d8_35)
  refine Comes.st st8 ?_
  show Comes p e below _ (T8.setTop (mkF m 38 #[.val (.ref sb), .val (.ref sg), .val (.int (7 : Int32))] [(.int (0 : Int32)), (.ref sb)]))
  refine Comes.st (fun t k => XS.iloadN X8.here hx rfl (hb hby d8_38) rfl (XS.iadd X8.here hx rfl (hb hby d8_39) rfl k)) ?_
  show Comes p e below _ (T8.setTop (mkF m 40 #[.val (.ref sb), .val (.ref sg), .val (.int (7 : Int32))] [(.int ((0 : Int32) + (7 : Int32))), (.ref sb)]))
  rw [show ((0 : Int32) + (7 : Int32)) = (7 : Int32) from by decide]
  show Comes p e below _ (T8.setTop (mkF m 40 #[.val (.ref sb), .val (.ref sg), .val (.int (7 : Int32))] [(.int (7 : Int32)), (.ref sb)]))
  have F9 : Exa Z T5.heap sb "java/lang/StringBuilder" := (G0.keep Kq5)
  obtain ⟨T10, h10, X10, e10, W10, st10⟩ := putF X8 hx hZ hown (host := "") (Or.inl (W hw 71)) Via.refl e8 F7 F9 (Or.inl (W hw 72)) (W hw 31) (ty := .int) (by decide) rfl rfl (g := (mkF m 40 #[.val (.ref sb), .val (.ref sg), .val (.int (7 : Int32))] [(.int (7 : Int32)), (.ref sb)])) rfl rfl (hb hby d8_40)
  have Fw10 := F7.same W10
  have z10 : h10.size = T5.heap.size := W10.size
  have gn11 : n0 ≤ sb := by omega
  have N10 := Fr.snoc X10 N5 gn11
  have K10 : Keep h0 h10 [sb, vb] := K5.wr W10 (Or.inl (List.mem_of_getElem? (i := 0) rfl))
  refine Comes.st st10 ?_
  show Comes p e below _ (T10.setTop (mkF m 43 #[.val (.ref sb), .val (.ref sg), .val (.int (7 : Int32))] []))
  refine Comes.st (fun t k => XS.aloadN X10.here hx rfl (hb hby d8_43) rfl rfl k) ?_
  show Comes p e below _ (T10.setTop (mkF m 44 #[.val (.ref sb), .val (.ref sg), .val (.int (7 : Int32))] [(.ref sb)]))
  have F12 : Exa Z h10 sb "java/lang/StringBuilder" := (F9.wr W10)
  have F13 : Fld Z h10 sb "java/lang/AbstractStringBuilder" "value" "[B" (.ref vb) := ((G1.keep Kq5 (ninS G16 nin0)).other W10 (Or.inr (slot_ne (Or.inl (W hw 45)) (Or.inl (W hw 72)) (by decide) (t := (.array .byte)) (t' := .int) (by decide) (by decide))))
  have F14 : Fld Z h10 sb "java/lang/AbstractStringBuilder" "coder" "B" (.int (0 : Int32)) := ((G2.keep Kq5 (ninS G16 nin0)).other W10 (Or.inr (slot_ne (Or.inl (W hw 47)) (Or.inl (W hw 72)) (by decide) (t := .byte) (t' := .int) (by decide) (by decide))))
  have F15 : Arv Z h10 vb kb .byte (16 : Int32) r6 (.int (0 : Int32)) := (P5_0.other W10 (Ne.symm G16))
  have F16 : Exa Z h10 vb "[B" := ((G9.keep Kq5).wr W10)
  exact Comes.retV X10 hx Bd.returns (narrow_ref rfl) (Or.inr (Or.inr (Or.inr (Or.inr ⟨rfl, rfl, rfl⟩)))) hlk (hb hby d8_44) e10 ⟨r6, rfl, N10, K10, F12, F13, F14, Fw10, F15, (by assumption), F16⟩ (by decide) (by decide)
def Q_ap0_7 (Z : State) (sb sg sv : Nat) (kv : ClassId) (vs : List Value) (cs : Int32) (vb : Nat) (kb : ClassId) (wl : List Value) (h0 : Heap) (n0 : Nat) (v_ : Option Value) (h : Heap) (L_ : List Loc) : Prop := ∃ (wm : List Value), (v_ = some (.ref sb)) ∧ (Fr n0 L_) ∧ (Keep h0 h [sb, vb]) ∧ (Exa Z h sb "java/lang/StringBuilder") ∧ (Fld Z h sb "java/lang/AbstractStringBuilder" "value" "[B" (.ref vb)) ∧ (Fld Z h sb "java/lang/AbstractStringBuilder" "coder" "B" (.int (0 : Int32))) ∧ (Fld Z h sb "java/lang/AbstractStringBuilder" "count" "I" (.int (7 : Int32))) ∧ (Arv Z h vb kb .byte (16 : Int32) wm (.int (0 : Int32))) ∧ (wm.length = 16) ∧ (Exa Z h vb "[B")
theorem ap0_7 (l : Launch) (Z : State) (a0 : Array Value) (hw : ∀ d ∈ tables_1, d.before a0 Z = true) (ws : List Jvm.Cond) (sb sg sv : Nat) (kv : ClassId) (vs : List Value) (cs : Int32) (vb : Nat) (kb : ClassId) (wl : List Value) (h0 : Heap) (n0 : Nat) (Z0 : n0 ≤ h0.size) (G0 : Exa Z h0 sb "java/lang/StringBuilder") (G1 : Fld Z h0 sb "java/lang/AbstractStringBuilder" "value" "[B" (.ref vb)) (G2 : Fld Z h0 sb "java/lang/AbstractStringBuilder" "coder" "B" (.int (0 : Int32))) (G3 : Fld Z h0 sb "java/lang/AbstractStringBuilder" "count" "I" (.int (0 : Int32))) (G4 : Exa Z h0 sg "java/lang/String") (G5 : Fld Z h0 sg "java/lang/String" "value" "[B" (.ref sv)) (G6 : Fld Z h0 sg "java/lang/String" "coder" "B" (.int (0 : Int32))) (G7 : Arv Z h0 sv kv .byte (7 : Int32) vs (.int (0 : Int32))) (G8 : Arv Z h0 vb kb .byte (16 : Int32) wl (.int (0 : Int32))) (G9 : Exa Z h0 vb "[B") (G10 : wl.length = 16) (G11 : Sta Z Z.heap "java/lang/String" "COMPACT_STRINGS" "Z" (.int cs)) (G12 : ¬ (cs = (0 : Int32))) (G13 : Old Z n0 h0) (G14 : sv ≠ vb) (G15 : n0 ≤ vb) (G16 : sb ≠ vb) (G17 : sg ≠ vb) (G18 : n0 ≤ sb) (G19 : sg ≠ sb) (G20 : sv ≠ sb) :
    MetFree l (⟨"java/lang/StringBuilder", "append", "(Ljava/lang/String;)Ljava/lang/StringBuilder;"⟩ : MethodName) (head1 (Jvm.Cond.code (⟨"java/lang/StringBuilder", "append", "(Ljava/lang/String;)Ljava/lang/StringBuilder;"⟩ : MethodName) jdk_67_method_7_code 2 (some (.object "java/lang/StringBuilder")) :: ws) (Rm 4 0 0 70)) (fun a_ U_ => a_ = #[(.ref sb), (.ref sg)] ∧ Z.Warmed39 U_.vm ∧ U_.heap = h0) (fun _ _ _ _ _ => True) (fun _ U_ o_ V_ => ∃ v_ L_, o_ = .returned v_ ∧ Q_ap0_7 Z sb sg sv kv vs cs vb kb wl h0 n0 v_ V_.heap L_ ∧ FrameEnd U_ o_ V_ L_ (Rm 4 0 0 70).cells (Rm 4 0 0 70).slots) := by
  refine MetFree.of_bodySF (plainFor_of_name pn_7) hisR ?_
  intro p e s m args below meth c s₁ Bd hml0 hP hK
  obtain ⟨rfl, hZ, hh⟩ := hP
  have hx := Bd.exec
  have hby := Bd.bytes
  have hml : c.maxLocals = 2 := hml0
  have hown : s.vm.findClass "java/lang/StringBuilder" = some m.cls := findClass_of_methodNamed Bd.named
  have hnm := (name_of_methodNamed Bd.named Bd.method).1
  have hlk : meth.locks = false := Bd.notSynchronized
  have X0 : Stand p l e (Rm 4 0 0 70) s m #[(.ref sb), (.ref sg)] below meth c s₁ [] 0 0 := Stand.of_body Bd
  have e0 : s₁.heap = h0 := by rw [← hh, Bd.state]; rfl
  have N0 := Fr.nil n0
  have K0 := Keep.refl h0 [sb, vb]
  refine Comes.out (Q := Q_ap0_7 Z sb sg sv kv vs cs vb kb wl h0 n0) (kc := (Rm 4 0 0 70).cells) (ks := (Rm 4 0 0 70).slots) ?_
  refine Comes.cast (ef_ap0_7 m sb sg) ?_
  have lt_sb : sb < h0.size := G0.lt
  have lt_sg : sg < h0.size := G4.lt
  have lt_sv : sv < h0.size := G7.lt
  have lt_vb : vb < h0.size := G8.lt
  show Comes p e below _ (s₁.setTop (mkF m 0 #[.val (.ref sb), .val (.ref sg)] []))
  refine Comes.st (fun t k => XS.aloadN X0.here hx rfl (hb hby d7_0) rfl rfl (XS.aloadN X0.here hx rfl (hb hby d7_1) rfl rfl k)) ?_
  show Comes p e below _ (s₁.setTop (mkF m 2 #[.val (.ref sb), .val (.ref sg)] [(.ref sg), (.ref sb)]))
  obtain ⟨_, _, ⟨T1, L1, k1, n1⟩, -, X1, ⟨Lc1, hQ1, l1, y1, z1⟩, st1⟩ := superBack X0 hx hZ (y := (⟨"java/lang/AbstractStringBuilder", "append", "(Ljava/lang/String;)Ljava/lang/AbstractStringBuilder;"⟩ : MethodName)) hown (W hw 53) (own_same (y := (⟨"java/lang/AbstractStringBuilder", "append", "(Ljava/lang/String;)Ljava/lang/AbstractStringBuilder;"⟩ : MethodName)) (z := (⟨"java/lang/AbstractStringBuilder", "ensureCapacityInternal", "(I)V"⟩ : MethodName)) (W hw 76) rfl (W hw 54) (by decide)) (W hw 54) (W hw 55) (by decide) (backOf (W := 0) (aa0_7 l Z a0 hw [] sb sg sv kv vs cs vb kb wl h0 n0 (by omega)  G0 G1 G2 G3 G4 G5 G6 G7 G8 G9 (by first | assumption | rfl) G11 (by assumption) G13 G14 (by omega) G16 G17 (by omega) G19 G20) hZ (W hw 57) (W hw 40) (by decide) (by decide)) e0 (Ins.self G0) (g := (mkF m 2 #[.val (.ref sb), .val (.ref sg)] [(.ref sg), (.ref sb)])) rfl (by rw [hml]; rfl) (W hw 57) (argsL := [(.ref sg)]) (rest := []) (lenOf pd_6 rfl) rfl (by show 2 * 0 + _ ≤ _; exact Nat.le_of_eq rfl) (hb hby d7_2) (fun _ _ => ⟨rfl, e0, (by decide : 0 + 0 ≤ _), (by decide : 0 + 0 ≤ _)⟩)
  dsimp only [Pt.U, Pt.locs, Pt.cells, Pt.slots] at X1 l1 y1 z1 st1 hQ1
  subst l1 y1 z1
  obtain ⟨r2, rfl, Nq1, Kq1, P1_0, P1_1, P1_2, P1_3, P1_4, P1_5, P1_6⟩ := hQ1
  have N1 := Fr.app N0 Nq1
  have z1k : h0.size ≤ T1.heap.size := Kq1.1
  have K1 : Keep h0 T1.heap [sb, vb] := K0.trans Kq1 (allS (Or.inl (List.mem_of_getElem? (i := 0) rfl)) (allS (Or.inl (List.mem_of_getElem? (i := 1) rfl)) all0))
  refine Comes.go st1 ?_
  show Comes p e below _ (T1.setTop (mkF m 5 #[.val (.ref sb), .val (.ref sg)] [(.ref sb)]))
  refine Comes.st (fun t k => XS.pop X1.here hx rfl (hb hby d7_5) rfl rfl (XS.aloadN X1.here hx rfl (hb hby d7_6) rfl rfl k)) ?_
  show Comes p e below _ (T1.setTop (mkF m 7 #[.val (.ref sb), .val (.ref sg)] [(.ref sb)]))
  exact Comes.retV X1 hx Bd.returns (narrow_ref rfl) (Or.inr (Or.inr (Or.inr (Or.inr ⟨rfl, rfl, rfl⟩)))) hlk (hb hby d7_7) rfl ⟨r2, rfl, N1, K1, P1_0, P1_1, P1_2, P1_3, P1_4, (by assumption), P1_6⟩ (by decide) (by decide)
def Q_gb0_8 (Z : State) (sg vb sv : Nat) (kv : ClassId) (vs : List Value) (cs : Int32) (kb : ClassId) (wl : List Value) (h0 : Heap) (n0 : Nat) (v_ : Option Value) (h : Heap) (L_ : List Loc) : Prop := ∃ (wm : List Value), (v_ = none) ∧ (Fr n0 L_) ∧ (Keep h0 h [vb]) ∧ (Arv Z h vb kb .byte (16 : Int32) wm (.int (0 : Int32))) ∧ (wm.length = 16)
theorem gb0_8 (l : Launch) (Z : State) (a0 : Array Value) (hw : ∀ d ∈ tables_1, d.before a0 Z = true) (ws : List Jvm.Cond) (sg vb sv : Nat) (kv : ClassId) (vs : List Value) (cs : Int32) (kb : ClassId) (wl : List Value) (h0 : Heap) (n0 : Nat) (Z0 : n0 ≤ h0.size) (G0 : Exa Z h0 sg "java/lang/String") (G1 : Fld Z h0 sg "java/lang/String" "value" "[B" (.ref sv)) (G2 : Fld Z h0 sg "java/lang/String" "coder" "B" (.int (0 : Int32))) (G3 : Arv Z h0 sv kv .byte (8 : Int32) vs (.int (0 : Int32))) (G4 : Arv Z h0 vb kb .byte (16 : Int32) wl (.int (0 : Int32))) (G5 : Exa Z h0 vb "[B") (G6 : wl.length = 16) (G7 : Sta Z Z.heap "java/lang/String" "COMPACT_STRINGS" "Z" (.int cs)) (G8 : ¬ (cs = (0 : Int32))) (G9 : Old Z n0 h0) (G10 : sv ≠ vb) (G11 : n0 ≤ vb) :
    MetFree l (⟨"java/lang/String", "getBytes", "([BIB)V"⟩ : MethodName) (head1 (Jvm.Cond.code (⟨"java/lang/String", "getBytes", "([BIB)V"⟩ : MethodName) jdk_42_method_147_code 4 none :: ws) (Rm 1 0 0 27)) (fun a_ U_ => a_ = #[(.ref sg), (.ref vb), (.int (0 : Int32)), (.int (0 : Int32))] ∧ Z.Warmed39 U_.vm ∧ U_.heap = h0) (fun _ _ _ _ _ => True) (fun _ U_ o_ V_ => ∃ v_ L_, o_ = .returned v_ ∧ Q_gb0_8 Z sg vb sv kv vs cs kb wl h0 n0 v_ V_.heap L_ ∧ FrameEnd U_ o_ V_ L_ (Rm 1 0 0 27).cells (Rm 1 0 0 27).slots) := by
  refine MetFree.of_bodySF (plainFor_of_name pn_14) hisR ?_
  intro p e s m args below meth c s₁ Bd hml0 hP hK
  obtain ⟨rfl, hZ, hh⟩ := hP
  have hx := Bd.exec
  have hby := Bd.bytes
  have hml : c.maxLocals = 4 := hml0
  have hown : s.vm.findClass "java/lang/String" = some m.cls := findClass_of_methodNamed Bd.named
  have hnm := (name_of_methodNamed Bd.named Bd.method).1
  have hlk : meth.locks = false := Bd.notSynchronized
  have X0 : Stand p l e (Rm 1 0 0 27) s m #[(.ref sg), (.ref vb), (.int (0 : Int32)), (.int (0 : Int32))] below meth c s₁ [] 0 0 := Stand.of_body Bd
  have e0 : s₁.heap = h0 := by rw [← hh, Bd.state]; rfl
  have N0 := Fr.nil n0
  have K0 := Keep.refl h0 [vb]
  refine Comes.out (Q := Q_gb0_8 Z sg vb sv kv vs cs kb wl h0 n0) (kc := (Rm 1 0 0 27).cells) (ks := (Rm 1 0 0 27).slots) ?_
  refine Comes.cast (ef_gb0_8 m sg vb) ?_
  have lt_sg : sg < h0.size := G0.lt
  have lt_sv : sv < h0.size := G3.lt
  have lt_vb : vb < h0.size := G4.lt
  show Comes p e below _ (s₁.setTop (mkF m 0 #[.val (.ref sg), .val (.ref vb), .val (.int (0 : Int32)), .val (.int (0 : Int32))] []))
  refine Comes.st (fun t k => XS.aloadN X0.here hx rfl (hb hby d14_0) rfl rfl k) ?_
  show Comes p e below _ (s₁.setTop (mkF m 1 #[.val (.ref sg), .val (.ref vb), .val (.int (0 : Int32)), .val (.int (0 : Int32))] [(.ref sg)]))
  obtain ⟨cq1, kq1, q1a, q1b, q1c⟩ := isOf hZ e0 G0
  obtain ⟨_, _, ⟨T1, L1, k1, n1⟩, -, X1, ⟨Lc1, hQ1, l1, y1, z1⟩, st1⟩ := X0.virtualBack hx (y := (⟨"java/lang/String", "coder", "()B"⟩ : MethodName)) (z := (⟨"java/lang/String", "coder", "()B"⟩ : MethodName)) hown (mvT hZ (W hw 64)) (mvT hZ (W hw 65)) (notFace_of_selects (args := #[]) (mvT hZ (W hw 67))) (mvT hZ (W hw 67)) (mvT hZ (W hw 66)) (by decide) (backOf (W := 0) (rm10 l Z a0 hw [] sg cs h0 n0 (by omega)  G2 G7 (by assumption) G9) hZ (W hw 68) (W hw 12) (by decide) (by decide)) q1a q1c (g := (mkF m 1 #[.val (.ref sg), .val (.ref vb), .val (.int (0 : Int32)), .val (.int (0 : Int32))] [(.ref sg)])) rfl (by rw [hml]; rfl) (Steps.refl _) (argsL := []) (rest := []) (lenOf pd_1 rfl) rfl (by show 2 * 0 + _ ≤ _; exact Nat.le_of_eq rfl) (hb hby d14_1) (fun _ _ => ⟨rfl, e0, (by decide : 0 + 0 ≤ _), (by decide : 0 + 0 ≤ _)⟩)
  dsimp only [Pt.U, Pt.locs, Pt.cells, Pt.slots] at X1 l1 y1 z1 st1 hQ1
  subst l1 y1 z1
  obtain ⟨rfl, Nq1, hs1⟩ := hQ1
  have N1 := Fr.app N0 Nq1
  refine Comes.go st1 ?_
  show Comes p e below _ (T1.setTop (mkF m 4 #[.val (.ref sg), .val (.ref vb), .val (.int (0 : Int32)), .val (.int (0 : Int32))] [(.int (0 : Int32))]))
  refine Comes.st (fun t k => XS.iloadN X1.here hx rfl (hb hby d14_4) rfl k) ?_
  show Comes p e below _ (T1.setTop (mkF m 5 #[.val (.ref sg), .val (.ref vb), .val (.int (0 : Int32)), .val (.int (0 : Int32))] [(.int (0 : Int32)), (.int (0 : Int32))]))
  have hc5_2 : (0 : Int32) = (0 : Int32) := by decide
  refine Comes.st (fun t k => XS.icmpNo X1.here hx rfl (hb hby d14_5) rfl (teq hc5_2).2 (XS.aloadN X1.here hx rfl (hb hby d14_8) rfl rfl k)) ?_
  show Comes p e below _ (T1.setTop (mkF m 9 #[.val (.ref sg), .val (.ref vb), .val (.int (0 : Int32)), .val (.int (0 : Int32))] [(.ref sg)]))
  obtain ⟨T3, X3, e3, st3⟩ := getF X1 hx hZ hown (host := "") (Or.inl (W hw 63)) Via.refl hs1 G1 (g := (mkF m 9 #[.val (.ref sg), .val (.ref vb), .val (.int (0 : Int32)), .val (.int (0 : Int32))] [(.ref sg)])) rfl rfl (hb hby d14_9)
  refine Comes.st st3 ?_
  show Comes p e below _ (T3.setTop (mkF m 12 #[.val (.ref sg), .val (.ref vb), .val (.int (0 : Int32)), .val (.int (0 : Int32))] [(.ref sv)]))
  refine Comes.st (fun t k => XS.iconst X3.here hx rfl (hb hby d14_12) (XS.aloadN X3.here hx rfl (hb hby d14_13) rfl rfl (XS.iloadN X3.here hx rfl (hb hby d14_14) rfl (XS.iloadN X3.here hx rfl (hb hby d14_15) rfl (XS.ishl X3.here hx rfl (hb hby d14_16) rfl k))))) ?_
  show Comes p e below _ (T3.setTop (mkF m 17 #[.val (.ref sg), .val (.ref vb), .val (.int (0 : Int32)), .val (.int (0 : Int32))] [(.int ((0 : Int32) <<< ((0 : Int32) &&& 31))), (.ref vb), (.int (0 : Int32)), (.ref sv)]))
  rw [show ((0 : Int32) <<< ((0 : Int32) &&& 31)) = (0 : Int32) from by decide]
  show Comes p e below _ (T3.setTop (mkF m 17 #[.val (.ref sg), .val (.ref vb), .val (.int (0 : Int32)), .val (.int (0 : Int32))] [(.int (0 : Int32)), (.ref vb), (.int (0 : Int32)), (.ref sv)]))
  refine Comes.st (fun t k => XS.aloadN X3.here hx rfl (hb hby d14_17) rfl rfl k) ?_
  show Comes p e below _ (T3.setTop (mkF m 18 #[.val (.ref sg), .val (.ref vb), .val (.int (0 : Int32)), .val (.int (0 : Int32))] [(.ref sg), (.int (0 : Int32)), (.ref vb), (.int (0 : Int32)), (.ref sv)]))
  obtain ⟨T4, X4, e4, st4⟩ := getF X3 hx hZ hown (host := "") (Or.inl (W hw 63)) Via.refl e3 G1 (g := (mkF m 18 #[.val (.ref sg), .val (.ref vb), .val (.int (0 : Int32)), .val (.int (0 : Int32))] [(.ref sg), (.int (0 : Int32)), (.ref vb), (.int (0 : Int32)), (.ref sv)])) rfl rfl (hb hby d14_18)
  refine Comes.st st4 ?_
  show Comes p e below _ (T4.setTop (mkF m 21 #[.val (.ref sg), .val (.ref vb), .val (.int (0 : Int32)), .val (.int (0 : Int32))] [(.ref sv), (.int (0 : Int32)), (.ref vb), (.int (0 : Int32)), (.ref sv)]))
  obtain ⟨cl5, Ar5, -, S5, Ng5, -, -⟩ := id G3
  refine Comes.st (fun t k => X4.arraylength hx (by rw [e4]; exact Ar5.1) (State.isArrayOf_alike hZ.alike Ar5.2.1) (g := (mkF m 21 #[.val (.ref sg), .val (.ref vb), .val (.int (0 : Int32)), .val (.int (0 : Int32))] [(.ref sv), (.int (0 : Int32)), (.ref vb), (.int (0 : Int32)), (.ref sv)])) rfl rfl (hb hby d14_21) _ k) ?_
  rw [len_of S5 Ng5]
  show Comes p e below _ (T4.setTop (mkF m 22 #[.val (.ref sg), .val (.ref vb), .val (.int (0 : Int32)), .val (.int (0 : Int32))] [(.int (8 : Int32)), (.int (0 : Int32)), (.ref vb), (.int (0 : Int32)), (.ref sv)]))
  obtain ⟨T6, h6, L6, X6, e6, N6, Kq6, V6, st6⟩ := cpA X4 hx hZ hown (W hw 94) (W hw 97) (W hw 95) (W hw 96) e4 G3 G4 (Or.inl ⟨rfl, rfl⟩) (by decide) (by decide) (by decide) (by decide) (by decide) rfl (by rw [G6]; decide) N1 (by omega) (g := (mkF m 22 #[.val (.ref sg), .val (.ref vb), .val (.int (0 : Int32)), .val (.int (0 : Int32))] [(.int (8 : Int32)), (.int (0 : Int32)), (.ref vb), (.int (0 : Int32)), (.ref sv)])) rfl (by rw [hml]; rfl) (rest := []) rfl (hb hby d14_22) (by decide) (W := 0) (by show 2 * 0 + _ ≤ _; exact Nat.le_of_eq rfl) (by decide)
  have z6 : h0.size ≤ h6.size := Kq6.1
  have K6 : Keep h0 h6 [vb] := K0.trans Kq6 (allS (Or.inl (List.mem_of_getElem? (i := 0) rfl)) all0)
  obtain ⟨w6, V6', hl6⟩ : ∃ w_ : List Value, Arv Z h6 vb kb .byte (16 : Int32) w_ (.int (0 : Int32)) ∧ w_.length = 16 := ⟨_, V6, by simp [G6]⟩
  refine Comes.st st6 ?_
  show Comes p e below _ (T6.setTop (mkF m 25 #[.val (.ref sg), .val (.ref vb), .val (.int (0 : Int32)), .val (.int (0 : Int32))] []))
  refine Comes.st (fun t k => XS.goto X6.here hx rfl (pc0 := 25) (pc' := 43) rfl (hb hby d14_25) (by decide) (by decide) k) ?_
  show Comes p e below _ (T6.setTop (mkF m 43 #[.val (.ref sg), .val (.ref vb), .val (.int (0 : Int32)), .val (.int (0 : Int32))] []))
  exact Comes.ret0 X6 hx Bd.returns hlk (hb hby d14_43) e6 ⟨w6, rfl, N6, K6, V6', (by assumption)⟩ (by decide) (by decide)
def Q_ps0_8 (Z : State) (sb sg sv : Nat) (kv : ClassId) (vs : List Value) (cs : Int32) (vb : Nat) (kb : ClassId) (wl : List Value) (h0 : Heap) (n0 : Nat) (v_ : Option Value) (h : Heap) (L_ : List Loc) : Prop := ∃ (wm : List Value), (v_ = none) ∧ (Fr n0 L_) ∧ (Keep h0 h [vb]) ∧ (Arv Z h vb kb .byte (16 : Int32) wm (.int (0 : Int32))) ∧ (wm.length = 16)
theorem ps0_8 (l : Launch) (Z : State) (a0 : Array Value) (hw : ∀ d ∈ tables_1, d.before a0 Z = true) (ws : List Jvm.Cond) (sb sg sv : Nat) (kv : ClassId) (vs : List Value) (cs : Int32) (vb : Nat) (kb : ClassId) (wl : List Value) (h0 : Heap) (n0 : Nat) (Z0 : n0 ≤ h0.size) (G0 : Exa Z h0 sb "java/lang/StringBuilder") (G1 : Fld Z h0 sb "java/lang/AbstractStringBuilder" "value" "[B" (.ref vb)) (G2 : Fld Z h0 sb "java/lang/AbstractStringBuilder" "coder" "B" (.int (0 : Int32))) (G3 : Fld Z h0 sb "java/lang/AbstractStringBuilder" "count" "I" (.int (0 : Int32))) (G4 : Exa Z h0 sg "java/lang/String") (G5 : Fld Z h0 sg "java/lang/String" "value" "[B" (.ref sv)) (G6 : Fld Z h0 sg "java/lang/String" "coder" "B" (.int (0 : Int32))) (G7 : Arv Z h0 sv kv .byte (8 : Int32) vs (.int (0 : Int32))) (G8 : Arv Z h0 vb kb .byte (16 : Int32) wl (.int (0 : Int32))) (G9 : Exa Z h0 vb "[B") (G10 : wl.length = 16) (G11 : Sta Z Z.heap "java/lang/String" "COMPACT_STRINGS" "Z" (.int cs)) (G12 : ¬ (cs = (0 : Int32))) (G13 : Old Z n0 h0) (G14 : sv ≠ vb) (G15 : n0 ≤ vb) (G16 : sb ≠ vb) (G17 : sg ≠ vb) :
    MetFree l (⟨"java/lang/AbstractStringBuilder", "putStringAt", "(ILjava/lang/String;)V"⟩ : MethodName) (head1 (Jvm.Cond.code (⟨"java/lang/AbstractStringBuilder", "putStringAt", "(ILjava/lang/String;)V"⟩ : MethodName) jdk_68_method_73_code 3 none :: ws) (Rm 2 0 0 42)) (fun a_ U_ => a_ = #[(.ref sb), (.int (0 : Int32)), (.ref sg)] ∧ Z.Warmed39 U_.vm ∧ U_.heap = h0) (fun _ _ _ _ _ => True) (fun _ U_ o_ V_ => ∃ v_ L_, o_ = .returned v_ ∧ Q_ps0_8 Z sb sg sv kv vs cs vb kb wl h0 n0 v_ V_.heap L_ ∧ FrameEnd U_ o_ V_ L_ (Rm 2 0 0 42).cells (Rm 2 0 0 42).slots) := by
  refine MetFree.of_bodySF (plainFor_of_name pn_12) hisR ?_
  intro p e s m args below meth c s₁ Bd hml0 hP hK
  obtain ⟨rfl, hZ, hh⟩ := hP
  have hx := Bd.exec
  have hby := Bd.bytes
  have hml : c.maxLocals = 3 := hml0
  have hown : s.vm.findClass "java/lang/AbstractStringBuilder" = some m.cls := findClass_of_methodNamed Bd.named
  have hnm := (name_of_methodNamed Bd.named Bd.method).1
  have hlk : meth.locks = false := Bd.notSynchronized
  have X0 : Stand p l e (Rm 2 0 0 42) s m #[(.ref sb), (.int (0 : Int32)), (.ref sg)] below meth c s₁ [] 0 0 := Stand.of_body Bd
  have e0 : s₁.heap = h0 := by rw [← hh, Bd.state]; rfl
  have N0 := Fr.nil n0
  have K0 := Keep.refl h0 [vb]
  refine Comes.out (Q := Q_ps0_8 Z sb sg sv kv vs cs vb kb wl h0 n0) (kc := (Rm 2 0 0 42).cells) (ks := (Rm 2 0 0 42).slots) ?_
  refine Comes.cast (ef_ps0_8 m sb sg) ?_
  have lt_sb : sb < h0.size := G0.lt
  have lt_sg : sg < h0.size := G4.lt
  have lt_sv : sv < h0.size := G7.lt
  have lt_vb : vb < h0.size := G8.lt
  show Comes p e below _ (s₁.setTop (mkF m 0 #[.val (.ref sb), .val (.int (0 : Int32)), .val (.ref sg)] []))
  refine Comes.st (fun t k => XS.aloadN X0.here hx rfl (hb hby d12_0) rfl rfl (XS.aloadN X0.here hx rfl (hb hby d12_1) rfl rfl k)) ?_
  show Comes p e below _ (s₁.setTop (mkF m 2 #[.val (.ref sb), .val (.int (0 : Int32)), .val (.ref sg)] [(.ref sg), (.ref sb)]))
  obtain ⟨cq1, q1, q1'⟩ := G0.cell
  obtain ⟨_, _, ⟨T1, L1, k1, n1⟩, -, X1, ⟨Lc1, hQ1, l1, y1, z1⟩, st1⟩ := X0.privateBack hx (y := (⟨"java/lang/AbstractStringBuilder", "inflateIfNeededFor", "(Ljava/lang/String;)V"⟩ : MethodName)) hown (mvT hZ (W hw 83)) (mvT hZ (W hw 84)) (mvT hZ (own_selq (y := (⟨"java/lang/AbstractStringBuilder", "inflateIfNeededFor", "(Ljava/lang/String;)V"⟩ : MethodName)) (W hw 86) (W hw 85) (W hw 84) (by decide))) (Cond.privateMethod_at (mvP hZ (W hw 85) (args := #[]))) (mvT hZ (W hw 87)) (by decide) (backOf (W := 0) (rm13 l Z a0 hw [] sb sg cs h0 n0 (by omega)  G0 G2 G4 G6 G11 (by assumption) G13) hZ (W hw 87) (W hw 40) (by decide) (by decide)) (g := (mkF m 2 #[.val (.ref sb), .val (.int (0 : Int32)), .val (.ref sg)] [(.ref sg), (.ref sb)])) rfl (by rw [hml]; rfl) (Steps.refl _) (a := sb) (by rw [e0]; exact q1) q1' (argsL := [(.ref sg)]) (rest := []) (lenOf pd_2 rfl) rfl (by show 2 * 0 + _ ≤ _; exact Nat.le_of_eq rfl) (hb hby d12_2) (fun _ _ => ⟨rfl, e0, (by decide : 0 + 0 ≤ _), (by decide : 0 + 0 ≤ _)⟩)
  dsimp only [Pt.U, Pt.locs, Pt.cells, Pt.slots] at X1 l1 y1 z1 st1 hQ1
  subst l1 y1 z1
  obtain ⟨rfl, Nq1, hs1⟩ := hQ1
  have N1 := Fr.app N0 Nq1
  refine Comes.go st1 ?_
  show Comes p e below _ (T1.setTop (mkF m 5 #[.val (.ref sb), .val (.int (0 : Int32)), .val (.ref sg)] []))
  refine Comes.st (fun t k => XS.aloadN X1.here hx rfl (hb hby d12_5) rfl rfl (XS.aloadN X1.here hx rfl (hb hby d12_6) rfl rfl k)) ?_
  show Comes p e below _ (T1.setTop (mkF m 7 #[.val (.ref sb), .val (.int (0 : Int32)), .val (.ref sg)] [(.ref sb), (.ref sg)]))
  obtain ⟨T2, X2, e2, st2⟩ := getF X1 hx hZ hown (host := "") (Or.inl (W hw 44)) Via.refl hs1 G1 (g := (mkF m 7 #[.val (.ref sb), .val (.int (0 : Int32)), .val (.ref sg)] [(.ref sb), (.ref sg)])) rfl rfl (hb hby d12_7)
  refine Comes.st st2 ?_
  show Comes p e below _ (T2.setTop (mkF m 10 #[.val (.ref sb), .val (.int (0 : Int32)), .val (.ref sg)] [(.ref vb), (.ref sg)]))
  refine Comes.st (fun t k => XS.iloadN X2.here hx rfl (hb hby d12_10) rfl (XS.aloadN X2.here hx rfl (hb hby d12_11) rfl rfl k)) ?_
  show Comes p e below _ (T2.setTop (mkF m 12 #[.val (.ref sb), .val (.int (0 : Int32)), .val (.ref sg)] [(.ref sb), (.int (0 : Int32)), (.ref vb), (.ref sg)]))
  obtain ⟨T3, X3, e3, st3⟩ := getF X2 hx hZ hown (host := "") (Or.inl (W hw 46)) Via.refl e2 G2 (g := (mkF m 12 #[.val (.ref sb), .val (.int (0 : Int32)), .val (.ref sg)] [(.ref sb), (.int (0 : Int32)), (.ref vb), (.ref sg)])) rfl rfl (hb hby d12_12)
  refine Comes.st st3 ?_
  show Comes p e below _ (T3.setTop (mkF m 15 #[.val (.ref sb), .val (.int (0 : Int32)), .val (.ref sg)] [(.int (0 : Int32)), (.int (0 : Int32)), (.ref vb), (.ref sg)]))
  obtain ⟨cq4, kq4, q4a, q4b, q4c⟩ := isOf hZ e3 G4
  obtain ⟨_, _, ⟨T4, L4, k4, n4⟩, -, X4, ⟨Lc4, hQ4, l4, y4, z4⟩, st4⟩ := X3.virtualBack hx (y := (⟨"java/lang/String", "getBytes", "([BIB)V"⟩ : MethodName)) (z := (⟨"java/lang/String", "getBytes", "([BIB)V"⟩ : MethodName)) hown (mvT hZ (W hw 89)) (mvT hZ (W hw 90)) (notFace_of_selects (args := #[]) (mvT hZ (W hw 92))) (mvT hZ (W hw 92)) (mvT hZ (W hw 91)) (by decide) (backOf (W := 0) (gb0_8 l Z a0 hw [] sg vb sv kv vs cs kb wl h0 n0 (by omega)  G4 G5 G6 G7 G8 G9 (by first | assumption | rfl) G11 (by assumption) G13 G14 (by omega)) hZ (W hw 93) (W hw 12) (by decide) (by decide)) q4a q4c (g := (mkF m 15 #[.val (.ref sb), .val (.int (0 : Int32)), .val (.ref sg)] [(.int (0 : Int32)), (.int (0 : Int32)), (.ref vb), (.ref sg)])) rfl (by rw [hml]; rfl) (Steps.refl _) (argsL := [(.ref vb), (.int (0 : Int32)), (.int (0 : Int32))]) (rest := []) (lenOf pd_3 rfl) rfl (by show 2 * 0 + _ ≤ _; exact Nat.le_of_eq rfl) (hb hby d12_15) (fun _ _ => ⟨rfl, e3, (by decide : 0 + 0 ≤ _), (by decide : 0 + 0 ≤ _)⟩)
  dsimp only [Pt.U, Pt.locs, Pt.cells, Pt.slots] at X4 l4 y4 z4 st4 hQ4
  subst l4 y4 z4
  obtain ⟨r5, rfl, Nq4, Kq4, P4_0, P4_1⟩ := hQ4
  have N4 := Fr.app N1 Nq4
  have z4k : h0.size ≤ T4.heap.size := Kq4.1
  have K4 : Keep h0 T4.heap [vb] := K0.trans Kq4 (allS (Or.inl (List.mem_of_getElem? (i := 0) rfl)) all0)
  refine Comes.go st4 ?_
  show Comes p e below _ (T4.setTop (mkF m 18 #[.val (.ref sb), .val (.int (0 : Int32)), .val (.ref sg)] []))
  exact Comes.ret0 X4 hx Bd.returns hlk (hb hby d12_18) rfl ⟨r5, rfl, N4, K4, P4_0, (by assumption)⟩ (by decide) (by decide)
def Q_aa0_8 (Z : State) (sb sg sv : Nat) (kv : ClassId) (vs : List Value) (cs : Int32) (vb : Nat) (kb : ClassId) (wl : List Value) (h0 : Heap) (n0 : Nat) (v_ : Option Value) (h : Heap) (L_ : List Loc) : Prop := ∃ (wm : List Value), (v_ = some (.ref sb)) ∧ (Fr n0 L_) ∧ (Keep h0 h [sb, vb]) ∧ (Exa Z h sb "java/lang/StringBuilder") ∧ (Fld Z h sb "java/lang/AbstractStringBuilder" "value" "[B" (.ref vb)) ∧ (Fld Z h sb "java/lang/AbstractStringBuilder" "coder" "B" (.int (0 : Int32))) ∧ (Fld Z h sb "java/lang/AbstractStringBuilder" "count" "I" (.int (8 : Int32))) ∧ (Arv Z h vb kb .byte (16 : Int32) wm (.int (0 : Int32))) ∧ (wm.length = 16) ∧ (Exa Z h vb "[B")
theorem aa0_8 (l : Launch) (Z : State) (a0 : Array Value) (hw : ∀ d ∈ tables_1, d.before a0 Z = true) (ws : List Jvm.Cond) (sb sg sv : Nat) (kv : ClassId) (vs : List Value) (cs : Int32) (vb : Nat) (kb : ClassId) (wl : List Value) (h0 : Heap) (n0 : Nat) (Z0 : n0 ≤ h0.size) (G0 : Exa Z h0 sb "java/lang/StringBuilder") (G1 : Fld Z h0 sb "java/lang/AbstractStringBuilder" "value" "[B" (.ref vb)) (G2 : Fld Z h0 sb "java/lang/AbstractStringBuilder" "coder" "B" (.int (0 : Int32))) (G3 : Fld Z h0 sb "java/lang/AbstractStringBuilder" "count" "I" (.int (0 : Int32))) (G4 : Exa Z h0 sg "java/lang/String") (G5 : Fld Z h0 sg "java/lang/String" "value" "[B" (.ref sv)) (G6 : Fld Z h0 sg "java/lang/String" "coder" "B" (.int (0 : Int32))) (G7 : Arv Z h0 sv kv .byte (8 : Int32) vs (.int (0 : Int32))) (G8 : Arv Z h0 vb kb .byte (16 : Int32) wl (.int (0 : Int32))) (G9 : Exa Z h0 vb "[B") (G10 : wl.length = 16) (G11 : Sta Z Z.heap "java/lang/String" "COMPACT_STRINGS" "Z" (.int cs)) (G12 : ¬ (cs = (0 : Int32))) (G13 : Old Z n0 h0) (G14 : sv ≠ vb) (G15 : n0 ≤ vb) (G16 : sb ≠ vb) (G17 : sg ≠ vb) (G18 : n0 ≤ sb) (G19 : sg ≠ sb) (G20 : sv ≠ sb) :
    MetFree l (⟨"java/lang/AbstractStringBuilder", "append", "(Ljava/lang/String;)Ljava/lang/AbstractStringBuilder;"⟩ : MethodName) (head1 (Jvm.Cond.code (⟨"java/lang/AbstractStringBuilder", "append", "(Ljava/lang/String;)Ljava/lang/AbstractStringBuilder;"⟩ : MethodName) jdk_68_method_22_code 3 (some (.object "java/lang/AbstractStringBuilder")) :: ws) (Rm 3 0 0 56)) (fun a_ U_ => a_ = #[(.ref sb), (.ref sg)] ∧ Z.Warmed39 U_.vm ∧ U_.heap = h0) (fun _ _ _ _ _ => True) (fun _ U_ o_ V_ => ∃ v_ L_, o_ = .returned v_ ∧ Q_aa0_8 Z sb sg sv kv vs cs vb kb wl h0 n0 v_ V_.heap L_ ∧ FrameEnd U_ o_ V_ L_ (Rm 3 0 0 56).cells (Rm 3 0 0 56).slots) := by
  refine MetFree.of_bodySF (plainFor_of_name pn_8) hisR ?_
  intro p e s m args below meth c s₁ Bd hml0 hP hK
  obtain ⟨rfl, hZ, hh⟩ := hP
  have hx := Bd.exec
  have hby := Bd.bytes
  have hml : c.maxLocals = 3 := hml0
  have hown : s.vm.findClass "java/lang/AbstractStringBuilder" = some m.cls := findClass_of_methodNamed Bd.named
  have hnm := (name_of_methodNamed Bd.named Bd.method).1
  have hlk : meth.locks = false := Bd.notSynchronized
  have X0 : Stand p l e (Rm 3 0 0 56) s m #[(.ref sb), (.ref sg)] below meth c s₁ [] 0 0 := Stand.of_body Bd
  have e0 : s₁.heap = h0 := by rw [← hh, Bd.state]; rfl
  have N0 := Fr.nil n0
  have K0 := Keep.refl h0 [sb, vb]
  refine Comes.out (Q := Q_aa0_8 Z sb sg sv kv vs cs vb kb wl h0 n0) (kc := (Rm 3 0 0 56).cells) (ks := (Rm 3 0 0 56).slots) ?_
  refine Comes.cast (ef_aa0_8 m sb sg) ?_
  have lt_sb : sb < h0.size := G0.lt
  have lt_sg : sg < h0.size := G4.lt
  have lt_sv : sv < h0.size := G7.lt
  have lt_vb : vb < h0.size := G8.lt
  show Comes p e below _ (s₁.setTop (mkF m 0 #[.val (.ref sb), .val (.ref sg), .unset] []))
  refine Comes.st (fun t k => XS.aloadN X0.here hx rfl (hb hby d8_0) rfl rfl (XS.ifnonnullYes X0.here hx rfl (pc0 := 1) (pc' := 9) rfl (hb hby d8_1) rfl (by decide) (by decide) (XS.aloadN X0.here hx rfl (hb hby d8_9) rfl rfl k))) ?_
  show Comes p e below _ (s₁.setTop (mkF m 10 #[.val (.ref sb), .val (.ref sg), .unset] [(.ref sg)]))
  obtain ⟨cq1, kq1, q1a, q1b, q1c⟩ := isOf hZ e0 G4
  obtain ⟨_, _, ⟨T1, L1, k1, n1⟩, -, X1, ⟨Lc1, hQ1, l1, y1, z1⟩, st1⟩ := X0.virtualBack hx (y := (⟨"java/lang/String", "length", "()I"⟩ : MethodName)) (z := (⟨"java/lang/String", "length", "()I"⟩ : MethodName)) hown (mvT hZ (W hw 58)) (mvT hZ (W hw 59)) (notFace_of_selects (args := #[]) (mvT hZ (W hw 61))) (mvT hZ (W hw 61)) (mvT hZ (W hw 60)) (by decide) (backOf (W := 0) (len8 l Z a0 hw [] sg sv kv vs cs h0 n0 (by omega)  G4 G5 G6 G7 G11 (by assumption) G13) hZ (W hw 62) (W hw 12) (by decide) (by decide)) q1a q1c (g := (mkF m 10 #[.val (.ref sb), .val (.ref sg), .unset] [(.ref sg)])) rfl (by rw [hml]; rfl) (Steps.refl _) (argsL := []) (rest := []) (lenOf pd_4 rfl) rfl (by show 2 * 0 + _ ≤ _; exact Nat.le_of_eq rfl) (hb hby d8_10) (fun _ _ => ⟨rfl, e0, (by decide : 0 + 0 ≤ _), (by decide : 0 + 0 ≤ _)⟩)
  dsimp only [Pt.U, Pt.locs, Pt.cells, Pt.slots] at X1 l1 y1 z1 st1 hQ1
  subst l1 y1 z1
  obtain ⟨rfl, Nq1, hs1⟩ := hQ1
  have N1 := Fr.app N0 Nq1
  refine Comes.go st1 ?_
  show Comes p e below _ (T1.setTop (mkF m 13 #[.val (.ref sb), .val (.ref sg), .unset] [(.int (8 : Int32))]))
  refine Comes.st (fun t k => XS.istoreN X1.here hx rfl (hb hby d8_13) rfl (l' := #[.val (.ref sb), .val (.ref sg), .val (.int (8 : Int32))]) rfl (XS.aloadN X1.here hx rfl (hb hby d8_14) rfl rfl (XS.aloadN X1.here hx rfl (hb hby d8_15) rfl rfl k))) ?_
  show Comes p e below _ (T1.setTop (mkF m 16 #[.val (.ref sb), .val (.ref sg), .val (.int (8 : Int32))] [(.ref sb), (.ref sb)]))
  obtain ⟨T2, X2, e2, st2⟩ := getF X1 hx hZ hown (host := "") (Or.inl (W hw 71)) Via.refl hs1 G3 (g := (mkF m 16 #[.val (.ref sb), .val (.ref sg), .val (.int (8 : Int32))] [(.ref sb), (.ref sb)])) rfl rfl (hb hby d8_16)
  refine Comes.st st2 ?_
  show Comes p e below _ (T2.setTop (mkF m 19 #[.val (.ref sb), .val (.ref sg), .val (.int (8 : Int32))] [(.int (0 : Int32)), (.ref sb)]))
  refine Comes.st (fun t k => XS.iloadN X2.here hx rfl (hb hby d8_19) rfl (XS.iadd X2.here hx rfl (hb hby d8_20) rfl k)) ?_
  show Comes p e below _ (T2.setTop (mkF m 21 #[.val (.ref sb), .val (.ref sg), .val (.int (8 : Int32))] [(.int ((0 : Int32) + (8 : Int32))), (.ref sb)]))
  rw [show ((0 : Int32) + (8 : Int32)) = (8 : Int32) from by decide]
  show Comes p e below _ (T2.setTop (mkF m 21 #[.val (.ref sb), .val (.ref sg), .val (.int (8 : Int32))] [(.int (8 : Int32)), (.ref sb)]))
  obtain ⟨cq3, q3, q3'⟩ := G0.cell
  obtain ⟨_, _, ⟨T3, L3, k3, n3⟩, -, X3, ⟨Lc3, hQ3, l3, y3, z3⟩, st3⟩ := X2.privateBack hx (y := (⟨"java/lang/AbstractStringBuilder", "ensureCapacityInternal", "(I)V"⟩ : MethodName)) hown (mvT hZ (W hw 73)) (mvT hZ (W hw 74)) (mvT hZ (own_selq (y := (⟨"java/lang/AbstractStringBuilder", "ensureCapacityInternal", "(I)V"⟩ : MethodName)) (W hw 76) (W hw 75) (W hw 74) (by decide))) (Cond.privateMethod_at (mvP hZ (W hw 75) (args := #[]))) (mvT hZ (W hw 77)) (by decide) (backOf (W := 0) (ens8 l Z a0 hw [] sb vb kb wl ((0 : Int32)) h0 n0 (by omega)  G0 G1 G2 G3 G8) hZ (W hw 77) (W hw 40) (by decide) (by decide)) (g := (mkF m 21 #[.val (.ref sb), .val (.ref sg), .val (.int (8 : Int32))] [(.int (8 : Int32)), (.ref sb)])) rfl (by rw [hml]; rfl) (Steps.refl _) (a := sb) (by rw [e2]; exact q3) q3' (argsL := [(.int (8 : Int32))]) (rest := []) (lenOf pd_0 rfl) rfl (by show 2 * 0 + _ ≤ _; exact Nat.le_of_eq rfl) (hb hby d8_21) (fun _ _ => ⟨rfl, e2, (by decide : 0 + 0 ≤ _), (by decide : 0 + 0 ≤ _)⟩)
  dsimp only [Pt.U, Pt.locs, Pt.cells, Pt.slots] at X3 l3 y3 z3 st3 hQ3
  subst l3 y3 z3
  obtain ⟨rfl, Nq3, hs3⟩ := hQ3
  have N3 := Fr.app N1 Nq3
  refine Comes.go st3 ?_
  show Comes p e below _ (T3.setTop (mkF m 24 #[.val (.ref sb), .val (.ref sg), .val (.int (8 : Int32))] []))
  refine Comes.st (fun t k => XS.aloadN X3.here hx rfl (hb hby d8_24) rfl rfl (XS.aloadN X3.here hx rfl (hb hby d8_25) rfl rfl k)) ?_
  show Comes p e below _ (T3.setTop (mkF m 26 #[.val (.ref sb), .val (.ref sg), .val (.int (8 : Int32))] [(.ref sb), (.ref sb)]))
  obtain ⟨T4, X4, e4, st4⟩ := getF X3 hx hZ hown (host := "") (Or.inl (W hw 71)) Via.refl hs3 G3 (g := (mkF m 26 #[.val (.ref sb), .val (.ref sg), .val (.int (8 : Int32))] [(.ref sb), (.ref sb)])) rfl rfl (hb hby d8_26)
  refine Comes.st st4 ?_
  show Comes p e below _ (T4.setTop (mkF m 29 #[.val (.ref sb), .val (.ref sg), .val (.int (8 : Int32))] [(.int (0 : Int32)), (.ref sb)]))
  refine Comes.st (fun t k => XS.aloadN X4.here hx rfl (hb hby d8_29) rfl rfl k) ?_
  show Comes p e below _ (T4.setTop (mkF m 30 #[.val (.ref sb), .val (.ref sg), .val (.int (8 : Int32))] [(.ref sg), (.int (0 : Int32)), (.ref sb)]))
  obtain ⟨cq5, q5, q5'⟩ := G0.cell
  obtain ⟨_, _, ⟨T5, L5, k5, n5⟩, -, X5, ⟨Lc5, hQ5, l5, y5, z5⟩, st5⟩ := X4.privateBack hx (y := (⟨"java/lang/AbstractStringBuilder", "putStringAt", "(ILjava/lang/String;)V"⟩ : MethodName)) hown (mvT hZ (W hw 78)) (mvT hZ (W hw 79)) (mvT hZ (own_selq (y := (⟨"java/lang/AbstractStringBuilder", "putStringAt", "(ILjava/lang/String;)V"⟩ : MethodName)) (W hw 81) (W hw 80) (W hw 79) (by decide))) (Cond.privateMethod_at (mvP hZ (W hw 80) (args := #[]))) (mvT hZ (W hw 82)) (by decide) (backOf (W := 0) (ps0_8 l Z a0 hw [] sb sg sv kv vs cs vb kb wl h0 n0 (by omega)  G0 G1 G2 G3 G4 G5 G6 G7 G8 G9 (by first | assumption | rfl) G11 (by assumption) G13 G14 (by omega) G16 G17) hZ (W hw 82) (W hw 40) (by decide) (by decide)) (g := (mkF m 30 #[.val (.ref sb), .val (.ref sg), .val (.int (8 : Int32))] [(.ref sg), (.int (0 : Int32)), (.ref sb)])) rfl (by rw [hml]; rfl) (Steps.refl _) (a := sb) (by rw [e4]; exact q5) q5' (argsL := [(.int (0 : Int32)), (.ref sg)]) (rest := []) (lenOf pd_5 rfl) rfl (by show 2 * 0 + _ ≤ _; exact Nat.le_of_eq rfl) (hb hby d8_30) (fun _ _ => ⟨rfl, e4, (by decide : 0 + 0 ≤ _), (by decide : 0 + 0 ≤ _)⟩)
  dsimp only [Pt.U, Pt.locs, Pt.cells, Pt.slots] at X5 l5 y5 z5 st5 hQ5
  subst l5 y5 z5
  obtain ⟨r6, rfl, Nq5, Kq5, P5_0, P5_1⟩ := hQ5
  have N5 := Fr.app N3 Nq5
  have z5k : h0.size ≤ T5.heap.size := Kq5.1
  have K5 : Keep h0 T5.heap [sb, vb] := K0.trans Kq5 (allS (Or.inl (List.mem_of_getElem? (i := 1) rfl)) all0)
  refine Comes.go st5 ?_
  show Comes p e below _ (T5.setTop (mkF m 33 #[.val (.ref sb), .val (.ref sg), .val (.int (8 : Int32))] []))
  refine Comes.st (fun t k => XS.aloadN X5.here hx rfl (hb hby d8_33) rfl rfl (XS.dup X5.here hx rfl (hb hby d8_34) rfl rfl k)) ?_
  show Comes p e below _ (T5.setTop (mkF m 35 #[.val (.ref sb), .val (.ref sg), .val (.int (8 : Int32))] [(.ref sb), (.ref sb)]))
  have F7 : Fld Z T5.heap sb "java/lang/AbstractStringBuilder" "count" "I" (.int (0 : Int32)) := (G3.keep Kq5 (ninS G16 nin0))
  obtain ⟨T8, X8, e8, st8⟩ := getF X5 hx hZ hown (host := "") (Or.inl (W hw 71)) Via.refl rfl F7 (g := (mkF m 35 #[.val (.ref sb), .val (.ref sg), .val (.int (8 : Int32))] [(.ref sb), (.ref sb)])) rfl rfl (hb hby d8_35)
  refine Comes.st st8 ?_
  show Comes p e below _ (T8.setTop (mkF m 38 #[.val (.ref sb), .val (.ref sg), .val (.int (8 : Int32))] [(.int (0 : Int32)), (.ref sb)]))
  refine Comes.st (fun t k => XS.iloadN X8.here hx rfl (hb hby d8_38) rfl (XS.iadd X8.here hx rfl (hb hby d8_39) rfl k)) ?_
  show Comes p e below _ (T8.setTop (mkF m 40 #[.val (.ref sb), .val (.ref sg), .val (.int (8 : Int32))] [(.int ((0 : Int32) + (8 : Int32))), (.ref sb)]))
  rw [show ((0 : Int32) + (8 : Int32)) = (8 : Int32) from by decide]
  show Comes p e below _ (T8.setTop (mkF m 40 #[.val (.ref sb), .val (.ref sg), .val (.int (8 : Int32))] [(.int (8 : Int32)), (.ref sb)]))
  have F9 : Exa Z T5.heap sb "java/lang/StringBuilder" := (G0.keep Kq5)
  obtain ⟨T10, h10, X10, e10, W10, st10⟩ := putF X8 hx hZ hown (host := "") (Or.inl (W hw 71)) Via.refl e8 F7 F9 (Or.inl (W hw 72)) (W hw 31) (ty := .int) (by decide) rfl rfl (g := (mkF m 40 #[.val (.ref sb), .val (.ref sg), .val (.int (8 : Int32))] [(.int (8 : Int32)), (.ref sb)])) rfl rfl (hb hby d8_40)
  have Fw10 := F7.same W10
  have z10 : h10.size = T5.heap.size := W10.size
  have gn11 : n0 ≤ sb := by omega
  have N10 := Fr.snoc X10 N5 gn11
  have K10 : Keep h0 h10 [sb, vb] := K5.wr W10 (Or.inl (List.mem_of_getElem? (i := 0) rfl))
  refine Comes.st st10 ?_
  show Comes p e below _ (T10.setTop (mkF m 43 #[.val (.ref sb), .val (.ref sg), .val (.int (8 : Int32))] []))
  refine Comes.st (fun t k => XS.aloadN X10.here hx rfl (hb hby d8_43) rfl rfl k) ?_
  show Comes p e below _ (T10.setTop (mkF m 44 #[.val (.ref sb), .val (.ref sg), .val (.int (8 : Int32))] [(.ref sb)]))
  have F12 : Exa Z h10 sb "java/lang/StringBuilder" := (F9.wr W10)
  have F13 : Fld Z h10 sb "java/lang/AbstractStringBuilder" "value" "[B" (.ref vb) := ((G1.keep Kq5 (ninS G16 nin0)).other W10 (Or.inr (slot_ne (Or.inl (W hw 45)) (Or.inl (W hw 72)) (by decide) (t := (.array .byte)) (t' := .int) (by decide) (by decide))))
  have F14 : Fld Z h10 sb "java/lang/AbstractStringBuilder" "coder" "B" (.int (0 : Int32)) := ((G2.keep Kq5 (ninS G16 nin0)).other W10 (Or.inr (slot_ne (Or.inl (W hw 47)) (Or.inl (W hw 72)) (by decide) (t := .byte) (t' := .int) (by decide) (by decide))))
  have F15 : Arv Z h10 vb kb .byte (16 : Int32) r6 (.int (0 : Int32)) := (P5_0.other W10 (Ne.symm G16))
  have F16 : Exa Z h10 vb "[B" := ((G9.keep Kq5).wr W10)
  exact Comes.retV X10 hx Bd.returns (narrow_ref rfl) (Or.inr (Or.inr (Or.inr (Or.inr ⟨rfl, rfl, rfl⟩)))) hlk (hb hby d8_44) e10 ⟨r6, rfl, N10, K10, F12, F13, F14, Fw10, F15, (by assumption), F16⟩ (by decide) (by decide)
def Q_ap0_8 (Z : State) (sb sg sv : Nat) (kv : ClassId) (vs : List Value) (cs : Int32) (vb : Nat) (kb : ClassId) (wl : List Value) (h0 : Heap) (n0 : Nat) (v_ : Option Value) (h : Heap) (L_ : List Loc) : Prop := ∃ (wm : List Value), (v_ = some (.ref sb)) ∧ (Fr n0 L_) ∧ (Keep h0 h [sb, vb]) ∧ (Exa Z h sb "java/lang/StringBuilder") ∧ (Fld Z h sb "java/lang/AbstractStringBuilder" "value" "[B" (.ref vb)) ∧ (Fld Z h sb "java/lang/AbstractStringBuilder" "coder" "B" (.int (0 : Int32))) ∧ (Fld Z h sb "java/lang/AbstractStringBuilder" "count" "I" (.int (8 : Int32))) ∧ (Arv Z h vb kb .byte (16 : Int32) wm (.int (0 : Int32))) ∧ (wm.length = 16) ∧ (Exa Z h vb "[B")
theorem ap0_8 (l : Launch) (Z : State) (a0 : Array Value) (hw : ∀ d ∈ tables_1, d.before a0 Z = true) (ws : List Jvm.Cond) (sb sg sv : Nat) (kv : ClassId) (vs : List Value) (cs : Int32) (vb : Nat) (kb : ClassId) (wl : List Value) (h0 : Heap) (n0 : Nat) (Z0 : n0 ≤ h0.size) (G0 : Exa Z h0 sb "java/lang/StringBuilder") (G1 : Fld Z h0 sb "java/lang/AbstractStringBuilder" "value" "[B" (.ref vb)) (G2 : Fld Z h0 sb "java/lang/AbstractStringBuilder" "coder" "B" (.int (0 : Int32))) (G3 : Fld Z h0 sb "java/lang/AbstractStringBuilder" "count" "I" (.int (0 : Int32))) (G4 : Exa Z h0 sg "java/lang/String") (G5 : Fld Z h0 sg "java/lang/String" "value" "[B" (.ref sv)) (G6 : Fld Z h0 sg "java/lang/String" "coder" "B" (.int (0 : Int32))) (G7 : Arv Z h0 sv kv .byte (8 : Int32) vs (.int (0 : Int32))) (G8 : Arv Z h0 vb kb .byte (16 : Int32) wl (.int (0 : Int32))) (G9 : Exa Z h0 vb "[B") (G10 : wl.length = 16) (G11 : Sta Z Z.heap "java/lang/String" "COMPACT_STRINGS" "Z" (.int cs)) (G12 : ¬ (cs = (0 : Int32))) (G13 : Old Z n0 h0) (G14 : sv ≠ vb) (G15 : n0 ≤ vb) (G16 : sb ≠ vb) (G17 : sg ≠ vb) (G18 : n0 ≤ sb) (G19 : sg ≠ sb) (G20 : sv ≠ sb) :
    MetFree l (⟨"java/lang/StringBuilder", "append", "(Ljava/lang/String;)Ljava/lang/StringBuilder;"⟩ : MethodName) (head1 (Jvm.Cond.code (⟨"java/lang/StringBuilder", "append", "(Ljava/lang/String;)Ljava/lang/StringBuilder;"⟩ : MethodName) jdk_67_method_7_code 2 (some (.object "java/lang/StringBuilder")) :: ws) (Rm 4 0 0 70)) (fun a_ U_ => a_ = #[(.ref sb), (.ref sg)] ∧ Z.Warmed39 U_.vm ∧ U_.heap = h0) (fun _ _ _ _ _ => True) (fun _ U_ o_ V_ => ∃ v_ L_, o_ = .returned v_ ∧ Q_ap0_8 Z sb sg sv kv vs cs vb kb wl h0 n0 v_ V_.heap L_ ∧ FrameEnd U_ o_ V_ L_ (Rm 4 0 0 70).cells (Rm 4 0 0 70).slots) := by
  refine MetFree.of_bodySF (plainFor_of_name pn_7) hisR ?_
  intro p e s m args below meth c s₁ Bd hml0 hP hK
  obtain ⟨rfl, hZ, hh⟩ := hP
  have hx := Bd.exec
  have hby := Bd.bytes
  have hml : c.maxLocals = 2 := hml0
  have hown : s.vm.findClass "java/lang/StringBuilder" = some m.cls := findClass_of_methodNamed Bd.named
  have hnm := (name_of_methodNamed Bd.named Bd.method).1
  have hlk : meth.locks = false := Bd.notSynchronized
  have X0 : Stand p l e (Rm 4 0 0 70) s m #[(.ref sb), (.ref sg)] below meth c s₁ [] 0 0 := Stand.of_body Bd
  have e0 : s₁.heap = h0 := by rw [← hh, Bd.state]; rfl
  have N0 := Fr.nil n0
  have K0 := Keep.refl h0 [sb, vb]
  refine Comes.out (Q := Q_ap0_8 Z sb sg sv kv vs cs vb kb wl h0 n0) (kc := (Rm 4 0 0 70).cells) (ks := (Rm 4 0 0 70).slots) ?_
  refine Comes.cast (ef_ap0_8 m sb sg) ?_
  have lt_sb : sb < h0.size := G0.lt
  have lt_sg : sg < h0.size := G4.lt
  have lt_sv : sv < h0.size := G7.lt
  have lt_vb : vb < h0.size := G8.lt
  show Comes p e below _ (s₁.setTop (mkF m 0 #[.val (.ref sb), .val (.ref sg)] []))
  refine Comes.st (fun t k => XS.aloadN X0.here hx rfl (hb hby d7_0) rfl rfl (XS.aloadN X0.here hx rfl (hb hby d7_1) rfl rfl k)) ?_
  show Comes p e below _ (s₁.setTop (mkF m 2 #[.val (.ref sb), .val (.ref sg)] [(.ref sg), (.ref sb)]))
  obtain ⟨_, _, ⟨T1, L1, k1, n1⟩, -, X1, ⟨Lc1, hQ1, l1, y1, z1⟩, st1⟩ := superBack X0 hx hZ (y := (⟨"java/lang/AbstractStringBuilder", "append", "(Ljava/lang/String;)Ljava/lang/AbstractStringBuilder;"⟩ : MethodName)) hown (W hw 53) (own_same (y := (⟨"java/lang/AbstractStringBuilder", "append", "(Ljava/lang/String;)Ljava/lang/AbstractStringBuilder;"⟩ : MethodName)) (z := (⟨"java/lang/AbstractStringBuilder", "ensureCapacityInternal", "(I)V"⟩ : MethodName)) (W hw 76) rfl (W hw 54) (by decide)) (W hw 54) (W hw 55) (by decide) (backOf (W := 0) (aa0_8 l Z a0 hw [] sb sg sv kv vs cs vb kb wl h0 n0 (by omega)  G0 G1 G2 G3 G4 G5 G6 G7 G8 G9 (by first | assumption | rfl) G11 (by assumption) G13 G14 (by omega) G16 G17 (by omega) G19 G20) hZ (W hw 57) (W hw 40) (by decide) (by decide)) e0 (Ins.self G0) (g := (mkF m 2 #[.val (.ref sb), .val (.ref sg)] [(.ref sg), (.ref sb)])) rfl (by rw [hml]; rfl) (W hw 57) (argsL := [(.ref sg)]) (rest := []) (lenOf pd_6 rfl) rfl (by show 2 * 0 + _ ≤ _; exact Nat.le_of_eq rfl) (hb hby d7_2) (fun _ _ => ⟨rfl, e0, (by decide : 0 + 0 ≤ _), (by decide : 0 + 0 ≤ _)⟩)
  dsimp only [Pt.U, Pt.locs, Pt.cells, Pt.slots] at X1 l1 y1 z1 st1 hQ1
  subst l1 y1 z1
  obtain ⟨r2, rfl, Nq1, Kq1, P1_0, P1_1, P1_2, P1_3, P1_4, P1_5, P1_6⟩ := hQ1
  have N1 := Fr.app N0 Nq1
  have z1k : h0.size ≤ T1.heap.size := Kq1.1
  have K1 : Keep h0 T1.heap [sb, vb] := K0.trans Kq1 (allS (Or.inl (List.mem_of_getElem? (i := 0) rfl)) (allS (Or.inl (List.mem_of_getElem? (i := 1) rfl)) all0))
  refine Comes.go st1 ?_
  show Comes p e below _ (T1.setTop (mkF m 5 #[.val (.ref sb), .val (.ref sg)] [(.ref sb)]))
  refine Comes.st (fun t k => XS.pop X1.here hx rfl (hb hby d7_5) rfl rfl (XS.aloadN X1.here hx rfl (hb hby d7_6) rfl rfl k)) ?_
  show Comes p e below _ (T1.setTop (mkF m 7 #[.val (.ref sb), .val (.ref sg)] [(.ref sb)]))
  exact Comes.retV X1 hx Bd.returns (narrow_ref rfl) (Or.inr (Or.inr (Or.inr (Or.inr ⟨rfl, rfl, rfl⟩)))) hlk (hb hby d7_7) rfl ⟨r2, rfl, N1, K1, P1_0, P1_1, P1_2, P1_3, P1_4, (by assumption), P1_6⟩ (by decide) (by decide)
def Q_gb6_8 (Z : State) (sg vb sv : Nat) (kv : ClassId) (vs : List Value) (cs : Int32) (kb : ClassId) (wl : List Value) (h0 : Heap) (n0 : Nat) (v_ : Option Value) (h : Heap) (L_ : List Loc) : Prop := ∃ (wm : List Value), (v_ = none) ∧ (Fr n0 L_) ∧ (Keep h0 h [vb]) ∧ (Arv Z h vb kb .byte (16 : Int32) wm (.int (0 : Int32))) ∧ (wm.length = 16)
theorem gb6_8 (l : Launch) (Z : State) (a0 : Array Value) (hw : ∀ d ∈ tables_1, d.before a0 Z = true) (ws : List Jvm.Cond) (sg vb sv : Nat) (kv : ClassId) (vs : List Value) (cs : Int32) (kb : ClassId) (wl : List Value) (h0 : Heap) (n0 : Nat) (Z0 : n0 ≤ h0.size) (G0 : Exa Z h0 sg "java/lang/String") (G1 : Fld Z h0 sg "java/lang/String" "value" "[B" (.ref sv)) (G2 : Fld Z h0 sg "java/lang/String" "coder" "B" (.int (0 : Int32))) (G3 : Arv Z h0 sv kv .byte (8 : Int32) vs (.int (0 : Int32))) (G4 : Arv Z h0 vb kb .byte (16 : Int32) wl (.int (0 : Int32))) (G5 : Exa Z h0 vb "[B") (G6 : wl.length = 16) (G7 : Sta Z Z.heap "java/lang/String" "COMPACT_STRINGS" "Z" (.int cs)) (G8 : ¬ (cs = (0 : Int32))) (G9 : Old Z n0 h0) (G10 : sv ≠ vb) (G11 : n0 ≤ vb) :
    MetFree l (⟨"java/lang/String", "getBytes", "([BIB)V"⟩ : MethodName) (head1 (Jvm.Cond.code (⟨"java/lang/String", "getBytes", "([BIB)V"⟩ : MethodName) jdk_42_method_147_code 4 none :: ws) (Rm 1 0 0 27)) (fun a_ U_ => a_ = #[(.ref sg), (.ref vb), (.int (6 : Int32)), (.int (0 : Int32))] ∧ Z.Warmed39 U_.vm ∧ U_.heap = h0) (fun _ _ _ _ _ => True) (fun _ U_ o_ V_ => ∃ v_ L_, o_ = .returned v_ ∧ Q_gb6_8 Z sg vb sv kv vs cs kb wl h0 n0 v_ V_.heap L_ ∧ FrameEnd U_ o_ V_ L_ (Rm 1 0 0 27).cells (Rm 1 0 0 27).slots) := by
  refine MetFree.of_bodySF (plainFor_of_name pn_14) hisR ?_
  intro p e s m args below meth c s₁ Bd hml0 hP hK
  obtain ⟨rfl, hZ, hh⟩ := hP
  have hx := Bd.exec
  have hby := Bd.bytes
  have hml : c.maxLocals = 4 := hml0
  have hown : s.vm.findClass "java/lang/String" = some m.cls := findClass_of_methodNamed Bd.named
  have hnm := (name_of_methodNamed Bd.named Bd.method).1
  have hlk : meth.locks = false := Bd.notSynchronized
  have X0 : Stand p l e (Rm 1 0 0 27) s m #[(.ref sg), (.ref vb), (.int (6 : Int32)), (.int (0 : Int32))] below meth c s₁ [] 0 0 := Stand.of_body Bd
  have e0 : s₁.heap = h0 := by rw [← hh, Bd.state]; rfl
  have N0 := Fr.nil n0
  have K0 := Keep.refl h0 [vb]
  refine Comes.out (Q := Q_gb6_8 Z sg vb sv kv vs cs kb wl h0 n0) (kc := (Rm 1 0 0 27).cells) (ks := (Rm 1 0 0 27).slots) ?_
  refine Comes.cast (ef_gb6_8 m sg vb) ?_
  have lt_sg : sg < h0.size := G0.lt
  have lt_sv : sv < h0.size := G3.lt
  have lt_vb : vb < h0.size := G4.lt
  show Comes p e below _ (s₁.setTop (mkF m 0 #[.val (.ref sg), .val (.ref vb), .val (.int (6 : Int32)), .val (.int (0 : Int32))] []))
  refine Comes.st (fun t k => XS.aloadN X0.here hx rfl (hb hby d14_0) rfl rfl k) ?_
  show Comes p e below _ (s₁.setTop (mkF m 1 #[.val (.ref sg), .val (.ref vb), .val (.int (6 : Int32)), .val (.int (0 : Int32))] [(.ref sg)]))
  obtain ⟨cq1, kq1, q1a, q1b, q1c⟩ := isOf hZ e0 G0
  obtain ⟨_, _, ⟨T1, L1, k1, n1⟩, -, X1, ⟨Lc1, hQ1, l1, y1, z1⟩, st1⟩ := X0.virtualBack hx (y := (⟨"java/lang/String", "coder", "()B"⟩ : MethodName)) (z := (⟨"java/lang/String", "coder", "()B"⟩ : MethodName)) hown (mvT hZ (W hw 64)) (mvT hZ (W hw 65)) (notFace_of_selects (args := #[]) (mvT hZ (W hw 67))) (mvT hZ (W hw 67)) (mvT hZ (W hw 66)) (by decide) (backOf (W := 0) (rm10 l Z a0 hw [] sg cs h0 n0 (by omega)  G2 G7 (by assumption) G9) hZ (W hw 68) (W hw 12) (by decide) (by decide)) q1a q1c (g := (mkF m 1 #[.val (.ref sg), .val (.ref vb), .val (.int (6 : Int32)), .val (.int (0 : Int32))] [(.ref sg)])) rfl (by rw [hml]; rfl) (Steps.refl _) (argsL := []) (rest := []) (lenOf pd_1 rfl) rfl (by show 2 * 0 + _ ≤ _; exact Nat.le_of_eq rfl) (hb hby d14_1) (fun _ _ => ⟨rfl, e0, (by decide : 0 + 0 ≤ _), (by decide : 0 + 0 ≤ _)⟩)
  dsimp only [Pt.U, Pt.locs, Pt.cells, Pt.slots] at X1 l1 y1 z1 st1 hQ1
  subst l1 y1 z1
  obtain ⟨rfl, Nq1, hs1⟩ := hQ1
  have N1 := Fr.app N0 Nq1
  refine Comes.go st1 ?_
  show Comes p e below _ (T1.setTop (mkF m 4 #[.val (.ref sg), .val (.ref vb), .val (.int (6 : Int32)), .val (.int (0 : Int32))] [(.int (0 : Int32))]))
  refine Comes.st (fun t k => XS.iloadN X1.here hx rfl (hb hby d14_4) rfl k) ?_
  show Comes p e below _ (T1.setTop (mkF m 5 #[.val (.ref sg), .val (.ref vb), .val (.int (6 : Int32)), .val (.int (0 : Int32))] [(.int (0 : Int32)), (.int (0 : Int32))]))
  have hc5_2 : (0 : Int32) = (0 : Int32) := by decide
  refine Comes.st (fun t k => XS.icmpNo X1.here hx rfl (hb hby d14_5) rfl (teq hc5_2).2 (XS.aloadN X1.here hx rfl (hb hby d14_8) rfl rfl k)) ?_
  show Comes p e below _ (T1.setTop (mkF m 9 #[.val (.ref sg), .val (.ref vb), .val (.int (6 : Int32)), .val (.int (0 : Int32))] [(.ref sg)]))
  obtain ⟨T3, X3, e3, st3⟩ := getF X1 hx hZ hown (host := "") (Or.inl (W hw 63)) Via.refl hs1 G1 (g := (mkF m 9 #[.val (.ref sg), .val (.ref vb), .val (.int (6 : Int32)), .val (.int (0 : Int32))] [(.ref sg)])) rfl rfl (hb hby d14_9)
  refine Comes.st st3 ?_
  show Comes p e below _ (T3.setTop (mkF m 12 #[.val (.ref sg), .val (.ref vb), .val (.int (6 : Int32)), .val (.int (0 : Int32))] [(.ref sv)]))
  refine Comes.st (fun t k => XS.iconst X3.here hx rfl (hb hby d14_12) (XS.aloadN X3.here hx rfl (hb hby d14_13) rfl rfl (XS.iloadN X3.here hx rfl (hb hby d14_14) rfl (XS.iloadN X3.here hx rfl (hb hby d14_15) rfl (XS.ishl X3.here hx rfl (hb hby d14_16) rfl k))))) ?_
  show Comes p e below _ (T3.setTop (mkF m 17 #[.val (.ref sg), .val (.ref vb), .val (.int (6 : Int32)), .val (.int (0 : Int32))] [(.int ((6 : Int32) <<< ((0 : Int32) &&& 31))), (.ref vb), (.int (0 : Int32)), (.ref sv)]))
  rw [show ((6 : Int32) <<< ((0 : Int32) &&& 31)) = (6 : Int32) from by decide]
  show Comes p e below _ (T3.setTop (mkF m 17 #[.val (.ref sg), .val (.ref vb), .val (.int (6 : Int32)), .val (.int (0 : Int32))] [(.int (6 : Int32)), (.ref vb), (.int (0 : Int32)), (.ref sv)]))
  refine Comes.st (fun t k => XS.aloadN X3.here hx rfl (hb hby d14_17) rfl rfl k) ?_
  show Comes p e below _ (T3.setTop (mkF m 18 #[.val (.ref sg), .val (.ref vb), .val (.int (6 : Int32)), .val (.int (0 : Int32))] [(.ref sg), (.int (6 : Int32)), (.ref vb), (.int (0 : Int32)), (.ref sv)]))
  obtain ⟨T4, X4, e4, st4⟩ := getF X3 hx hZ hown (host := "") (Or.inl (W hw 63)) Via.refl e3 G1 (g := (mkF m 18 #[.val (.ref sg), .val (.ref vb), .val (.int (6 : Int32)), .val (.int (0 : Int32))] [(.ref sg), (.int (6 : Int32)), (.ref vb), (.int (0 : Int32)), (.ref sv)])) rfl rfl (hb hby d14_18)
  refine Comes.st st4 ?_
  show Comes p e below _ (T4.setTop (mkF m 21 #[.val (.ref sg), .val (.ref vb), .val (.int (6 : Int32)), .val (.int (0 : Int32))] [(.ref sv), (.int (6 : Int32)), (.ref vb), (.int (0 : Int32)), (.ref sv)]))
  obtain ⟨cl5, Ar5, -, S5, Ng5, -, -⟩ := id G3
  refine Comes.st (fun t k => X4.arraylength hx (by rw [e4]; exact Ar5.1) (State.isArrayOf_alike hZ.alike Ar5.2.1) (g := (mkF m 21 #[.val (.ref sg), .val (.ref vb), .val (.int (6 : Int32)), .val (.int (0 : Int32))] [(.ref sv), (.int (6 : Int32)), (.ref vb), (.int (0 : Int32)), (.ref sv)])) rfl rfl (hb hby d14_21) _ k) ?_
  rw [len_of S5 Ng5]
  show Comes p e below _ (T4.setTop (mkF m 22 #[.val (.ref sg), .val (.ref vb), .val (.int (6 : Int32)), .val (.int (0 : Int32))] [(.int (8 : Int32)), (.int (6 : Int32)), (.ref vb), (.int (0 : Int32)), (.ref sv)]))
  obtain ⟨T6, h6, L6, X6, e6, N6, Kq6, V6, st6⟩ := cpA X4 hx hZ hown (W hw 94) (W hw 97) (W hw 95) (W hw 96) e4 G3 G4 (Or.inl ⟨rfl, rfl⟩) (by decide) (by decide) (by decide) (by decide) (by decide) rfl (by rw [G6]; decide) N1 (by omega) (g := (mkF m 22 #[.val (.ref sg), .val (.ref vb), .val (.int (6 : Int32)), .val (.int (0 : Int32))] [(.int (8 : Int32)), (.int (6 : Int32)), (.ref vb), (.int (0 : Int32)), (.ref sv)])) rfl (by rw [hml]; rfl) (rest := []) rfl (hb hby d14_22) (by decide) (W := 0) (by show 2 * 0 + _ ≤ _; exact Nat.le_of_eq rfl) (by decide)
  have z6 : h0.size ≤ h6.size := Kq6.1
  have K6 : Keep h0 h6 [vb] := K0.trans Kq6 (allS (Or.inl (List.mem_of_getElem? (i := 0) rfl)) all0)
  obtain ⟨w6, V6', hl6⟩ : ∃ w_ : List Value, Arv Z h6 vb kb .byte (16 : Int32) w_ (.int (0 : Int32)) ∧ w_.length = 16 := ⟨_, V6, by simp [G6]⟩
  refine Comes.st st6 ?_
  show Comes p e below _ (T6.setTop (mkF m 25 #[.val (.ref sg), .val (.ref vb), .val (.int (6 : Int32)), .val (.int (0 : Int32))] []))
  refine Comes.st (fun t k => XS.goto X6.here hx rfl (pc0 := 25) (pc' := 43) rfl (hb hby d14_25) (by decide) (by decide) k) ?_
  show Comes p e below _ (T6.setTop (mkF m 43 #[.val (.ref sg), .val (.ref vb), .val (.int (6 : Int32)), .val (.int (0 : Int32))] []))
  exact Comes.ret0 X6 hx Bd.returns hlk (hb hby d14_43) e6 ⟨w6, rfl, N6, K6, V6', (by assumption)⟩ (by decide) (by decide)
def Q_ps6_8 (Z : State) (sb sg sv : Nat) (kv : ClassId) (vs : List Value) (cs : Int32) (vb : Nat) (kb : ClassId) (wl : List Value) (h0 : Heap) (n0 : Nat) (v_ : Option Value) (h : Heap) (L_ : List Loc) : Prop := ∃ (wm : List Value), (v_ = none) ∧ (Fr n0 L_) ∧ (Keep h0 h [vb]) ∧ (Arv Z h vb kb .byte (16 : Int32) wm (.int (0 : Int32))) ∧ (wm.length = 16)
theorem ps6_8 (l : Launch) (Z : State) (a0 : Array Value) (hw : ∀ d ∈ tables_1, d.before a0 Z = true) (ws : List Jvm.Cond) (sb sg sv : Nat) (kv : ClassId) (vs : List Value) (cs : Int32) (vb : Nat) (kb : ClassId) (wl : List Value) (h0 : Heap) (n0 : Nat) (Z0 : n0 ≤ h0.size) (G0 : Exa Z h0 sb "java/lang/StringBuilder") (G1 : Fld Z h0 sb "java/lang/AbstractStringBuilder" "value" "[B" (.ref vb)) (G2 : Fld Z h0 sb "java/lang/AbstractStringBuilder" "coder" "B" (.int (0 : Int32))) (G3 : Fld Z h0 sb "java/lang/AbstractStringBuilder" "count" "I" (.int (6 : Int32))) (G4 : Exa Z h0 sg "java/lang/String") (G5 : Fld Z h0 sg "java/lang/String" "value" "[B" (.ref sv)) (G6 : Fld Z h0 sg "java/lang/String" "coder" "B" (.int (0 : Int32))) (G7 : Arv Z h0 sv kv .byte (8 : Int32) vs (.int (0 : Int32))) (G8 : Arv Z h0 vb kb .byte (16 : Int32) wl (.int (0 : Int32))) (G9 : Exa Z h0 vb "[B") (G10 : wl.length = 16) (G11 : Sta Z Z.heap "java/lang/String" "COMPACT_STRINGS" "Z" (.int cs)) (G12 : ¬ (cs = (0 : Int32))) (G13 : Old Z n0 h0) (G14 : sv ≠ vb) (G15 : n0 ≤ vb) (G16 : sb ≠ vb) (G17 : sg ≠ vb) :
    MetFree l (⟨"java/lang/AbstractStringBuilder", "putStringAt", "(ILjava/lang/String;)V"⟩ : MethodName) (head1 (Jvm.Cond.code (⟨"java/lang/AbstractStringBuilder", "putStringAt", "(ILjava/lang/String;)V"⟩ : MethodName) jdk_68_method_73_code 3 none :: ws) (Rm 2 0 0 42)) (fun a_ U_ => a_ = #[(.ref sb), (.int (6 : Int32)), (.ref sg)] ∧ Z.Warmed39 U_.vm ∧ U_.heap = h0) (fun _ _ _ _ _ => True) (fun _ U_ o_ V_ => ∃ v_ L_, o_ = .returned v_ ∧ Q_ps6_8 Z sb sg sv kv vs cs vb kb wl h0 n0 v_ V_.heap L_ ∧ FrameEnd U_ o_ V_ L_ (Rm 2 0 0 42).cells (Rm 2 0 0 42).slots) := by
  refine MetFree.of_bodySF (plainFor_of_name pn_12) hisR ?_
  intro p e s m args below meth c s₁ Bd hml0 hP hK
  obtain ⟨rfl, hZ, hh⟩ := hP
  have hx := Bd.exec
  have hby := Bd.bytes
  have hml : c.maxLocals = 3 := hml0
  have hown : s.vm.findClass "java/lang/AbstractStringBuilder" = some m.cls := findClass_of_methodNamed Bd.named
  have hnm := (name_of_methodNamed Bd.named Bd.method).1
  have hlk : meth.locks = false := Bd.notSynchronized
  have X0 : Stand p l e (Rm 2 0 0 42) s m #[(.ref sb), (.int (6 : Int32)), (.ref sg)] below meth c s₁ [] 0 0 := Stand.of_body Bd
  have e0 : s₁.heap = h0 := by rw [← hh, Bd.state]; rfl
  have N0 := Fr.nil n0
  have K0 := Keep.refl h0 [vb]
  refine Comes.out (Q := Q_ps6_8 Z sb sg sv kv vs cs vb kb wl h0 n0) (kc := (Rm 2 0 0 42).cells) (ks := (Rm 2 0 0 42).slots) ?_
  refine Comes.cast (ef_ps6_8 m sb sg) ?_
  have lt_sb : sb < h0.size := G0.lt
  have lt_sg : sg < h0.size := G4.lt
  have lt_sv : sv < h0.size := G7.lt
  have lt_vb : vb < h0.size := G8.lt
  show Comes p e below _ (s₁.setTop (mkF m 0 #[.val (.ref sb), .val (.int (6 : Int32)), .val (.ref sg)] []))
  refine Comes.st (fun t k => XS.aloadN X0.here hx rfl (hb hby d12_0) rfl rfl (XS.aloadN X0.here hx rfl (hb hby d12_1) rfl rfl k)) ?_
  show Comes p e below _ (s₁.setTop (mkF m 2 #[.val (.ref sb), .val (.int (6 : Int32)), .val (.ref sg)] [(.ref sg), (.ref sb)]))
  obtain ⟨cq1, q1, q1'⟩ := G0.cell
  obtain ⟨_, _, ⟨T1, L1, k1, n1⟩, -, X1, ⟨Lc1, hQ1, l1, y1, z1⟩, st1⟩ := X0.privateBack hx (y := (⟨"java/lang/AbstractStringBuilder", "inflateIfNeededFor", "(Ljava/lang/String;)V"⟩ : MethodName)) hown (mvT hZ (W hw 83)) (mvT hZ (W hw 84)) (mvT hZ (own_selq (y := (⟨"java/lang/AbstractStringBuilder", "inflateIfNeededFor", "(Ljava/lang/String;)V"⟩ : MethodName)) (W hw 86) (W hw 85) (W hw 84) (by decide))) (Cond.privateMethod_at (mvP hZ (W hw 85) (args := #[]))) (mvT hZ (W hw 87)) (by decide) (backOf (W := 0) (rm13 l Z a0 hw [] sb sg cs h0 n0 (by omega)  G0 G2 G4 G6 G11 (by assumption) G13) hZ (W hw 87) (W hw 40) (by decide) (by decide)) (g := (mkF m 2 #[.val (.ref sb), .val (.int (6 : Int32)), .val (.ref sg)] [(.ref sg), (.ref sb)])) rfl (by rw [hml]; rfl) (Steps.refl _) (a := sb) (by rw [e0]; exact q1) q1' (argsL := [(.ref sg)]) (rest := []) (lenOf pd_2 rfl) rfl (by show 2 * 0 + _ ≤ _; exact Nat.le_of_eq rfl) (hb hby d12_2) (fun _ _ => ⟨rfl, e0, (by decide : 0 + 0 ≤ _), (by decide : 0 + 0 ≤ _)⟩)
  dsimp only [Pt.U, Pt.locs, Pt.cells, Pt.slots] at X1 l1 y1 z1 st1 hQ1
  subst l1 y1 z1
  obtain ⟨rfl, Nq1, hs1⟩ := hQ1
  have N1 := Fr.app N0 Nq1
  refine Comes.go st1 ?_
  show Comes p e below _ (T1.setTop (mkF m 5 #[.val (.ref sb), .val (.int (6 : Int32)), .val (.ref sg)] []))
  refine Comes.st (fun t k => XS.aloadN X1.here hx rfl (hb hby d12_5) rfl rfl (XS.aloadN X1.here hx rfl (hb hby d12_6) rfl rfl k)) ?_
  show Comes p e below _ (T1.setTop (mkF m 7 #[.val (.ref sb), .val (.int (6 : Int32)), .val (.ref sg)] [(.ref sb), (.ref sg)]))
  obtain ⟨T2, X2, e2, st2⟩ := getF X1 hx hZ hown (host := "") (Or.inl (W hw 44)) Via.refl hs1 G1 (g := (mkF m 7 #[.val (.ref sb), .val (.int (6 : Int32)), .val (.ref sg)] [(.ref sb), (.ref sg)])) rfl rfl (hb hby d12_7)
  refine Comes.st st2 ?_
  show Comes p e below _ (T2.setTop (mkF m 10 #[.val (.ref sb), .val (.int (6 : Int32)), .val (.ref sg)] [(.ref vb), (.ref sg)]))
  refine Comes.st (fun t k => XS.iloadN X2.here hx rfl (hb hby d12_10) rfl (XS.aloadN X2.here hx rfl (hb hby d12_11) rfl rfl k)) ?_
  show Comes p e below _ (T2.setTop (mkF m 12 #[.val (.ref sb), .val (.int (6 : Int32)), .val (.ref sg)] [(.ref sb), (.int (6 : Int32)), (.ref vb), (.ref sg)]))
  obtain ⟨T3, X3, e3, st3⟩ := getF X2 hx hZ hown (host := "") (Or.inl (W hw 46)) Via.refl e2 G2 (g := (mkF m 12 #[.val (.ref sb), .val (.int (6 : Int32)), .val (.ref sg)] [(.ref sb), (.int (6 : Int32)), (.ref vb), (.ref sg)])) rfl rfl (hb hby d12_12)
  refine Comes.st st3 ?_
  show Comes p e below _ (T3.setTop (mkF m 15 #[.val (.ref sb), .val (.int (6 : Int32)), .val (.ref sg)] [(.int (0 : Int32)), (.int (6 : Int32)), (.ref vb), (.ref sg)]))
  obtain ⟨cq4, kq4, q4a, q4b, q4c⟩ := isOf hZ e3 G4
  obtain ⟨_, _, ⟨T4, L4, k4, n4⟩, -, X4, ⟨Lc4, hQ4, l4, y4, z4⟩, st4⟩ := X3.virtualBack hx (y := (⟨"java/lang/String", "getBytes", "([BIB)V"⟩ : MethodName)) (z := (⟨"java/lang/String", "getBytes", "([BIB)V"⟩ : MethodName)) hown (mvT hZ (W hw 89)) (mvT hZ (W hw 90)) (notFace_of_selects (args := #[]) (mvT hZ (W hw 92))) (mvT hZ (W hw 92)) (mvT hZ (W hw 91)) (by decide) (backOf (W := 0) (gb6_8 l Z a0 hw [] sg vb sv kv vs cs kb wl h0 n0 (by omega)  G4 G5 G6 G7 G8 G9 (by first | assumption | rfl) G11 (by assumption) G13 G14 (by omega)) hZ (W hw 93) (W hw 12) (by decide) (by decide)) q4a q4c (g := (mkF m 15 #[.val (.ref sb), .val (.int (6 : Int32)), .val (.ref sg)] [(.int (0 : Int32)), (.int (6 : Int32)), (.ref vb), (.ref sg)])) rfl (by rw [hml]; rfl) (Steps.refl _) (argsL := [(.ref vb), (.int (6 : Int32)), (.int (0 : Int32))]) (rest := []) (lenOf pd_3 rfl) rfl (by show 2 * 0 + _ ≤ _; exact Nat.le_of_eq rfl) (hb hby d12_15) (fun _ _ => ⟨rfl, e3, (by decide : 0 + 0 ≤ _), (by decide : 0 + 0 ≤ _)⟩)
  dsimp only [Pt.U, Pt.locs, Pt.cells, Pt.slots] at X4 l4 y4 z4 st4 hQ4
  subst l4 y4 z4
  obtain ⟨r5, rfl, Nq4, Kq4, P4_0, P4_1⟩ := hQ4
  have N4 := Fr.app N1 Nq4
  have z4k : h0.size ≤ T4.heap.size := Kq4.1
  have K4 : Keep h0 T4.heap [vb] := K0.trans Kq4 (allS (Or.inl (List.mem_of_getElem? (i := 0) rfl)) all0)
  refine Comes.go st4 ?_
  show Comes p e below _ (T4.setTop (mkF m 18 #[.val (.ref sb), .val (.int (6 : Int32)), .val (.ref sg)] []))
  exact Comes.ret0 X4 hx Bd.returns hlk (hb hby d12_18) rfl ⟨r5, rfl, N4, K4, P4_0, (by assumption)⟩ (by decide) (by decide)
def Q_aa6_8 (Z : State) (sb sg sv : Nat) (kv : ClassId) (vs : List Value) (cs : Int32) (vb : Nat) (kb : ClassId) (wl : List Value) (h0 : Heap) (n0 : Nat) (v_ : Option Value) (h : Heap) (L_ : List Loc) : Prop := ∃ (wm : List Value), (v_ = some (.ref sb)) ∧ (Fr n0 L_) ∧ (Keep h0 h [sb, vb]) ∧ (Exa Z h sb "java/lang/StringBuilder") ∧ (Fld Z h sb "java/lang/AbstractStringBuilder" "value" "[B" (.ref vb)) ∧ (Fld Z h sb "java/lang/AbstractStringBuilder" "coder" "B" (.int (0 : Int32))) ∧ (Fld Z h sb "java/lang/AbstractStringBuilder" "count" "I" (.int (14 : Int32))) ∧ (Arv Z h vb kb .byte (16 : Int32) wm (.int (0 : Int32))) ∧ (wm.length = 16) ∧ (Exa Z h vb "[B")
theorem aa6_8 (l : Launch) (Z : State) (a0 : Array Value) (hw : ∀ d ∈ tables_1, d.before a0 Z = true) (ws : List Jvm.Cond) (sb sg sv : Nat) (kv : ClassId) (vs : List Value) (cs : Int32) (vb : Nat) (kb : ClassId) (wl : List Value) (h0 : Heap) (n0 : Nat) (Z0 : n0 ≤ h0.size) (G0 : Exa Z h0 sb "java/lang/StringBuilder") (G1 : Fld Z h0 sb "java/lang/AbstractStringBuilder" "value" "[B" (.ref vb)) (G2 : Fld Z h0 sb "java/lang/AbstractStringBuilder" "coder" "B" (.int (0 : Int32))) (G3 : Fld Z h0 sb "java/lang/AbstractStringBuilder" "count" "I" (.int (6 : Int32))) (G4 : Exa Z h0 sg "java/lang/String") (G5 : Fld Z h0 sg "java/lang/String" "value" "[B" (.ref sv)) (G6 : Fld Z h0 sg "java/lang/String" "coder" "B" (.int (0 : Int32))) (G7 : Arv Z h0 sv kv .byte (8 : Int32) vs (.int (0 : Int32))) (G8 : Arv Z h0 vb kb .byte (16 : Int32) wl (.int (0 : Int32))) (G9 : Exa Z h0 vb "[B") (G10 : wl.length = 16) (G11 : Sta Z Z.heap "java/lang/String" "COMPACT_STRINGS" "Z" (.int cs)) (G12 : ¬ (cs = (0 : Int32))) (G13 : Old Z n0 h0) (G14 : sv ≠ vb) (G15 : n0 ≤ vb) (G16 : sb ≠ vb) (G17 : sg ≠ vb) (G18 : n0 ≤ sb) (G19 : sg ≠ sb) (G20 : sv ≠ sb) :
    MetFree l (⟨"java/lang/AbstractStringBuilder", "append", "(Ljava/lang/String;)Ljava/lang/AbstractStringBuilder;"⟩ : MethodName) (head1 (Jvm.Cond.code (⟨"java/lang/AbstractStringBuilder", "append", "(Ljava/lang/String;)Ljava/lang/AbstractStringBuilder;"⟩ : MethodName) jdk_68_method_22_code 3 (some (.object "java/lang/AbstractStringBuilder")) :: ws) (Rm 3 0 0 56)) (fun a_ U_ => a_ = #[(.ref sb), (.ref sg)] ∧ Z.Warmed39 U_.vm ∧ U_.heap = h0) (fun _ _ _ _ _ => True) (fun _ U_ o_ V_ => ∃ v_ L_, o_ = .returned v_ ∧ Q_aa6_8 Z sb sg sv kv vs cs vb kb wl h0 n0 v_ V_.heap L_ ∧ FrameEnd U_ o_ V_ L_ (Rm 3 0 0 56).cells (Rm 3 0 0 56).slots) := by
  refine MetFree.of_bodySF (plainFor_of_name pn_8) hisR ?_
  intro p e s m args below meth c s₁ Bd hml0 hP hK
  obtain ⟨rfl, hZ, hh⟩ := hP
  have hx := Bd.exec
  have hby := Bd.bytes
  have hml : c.maxLocals = 3 := hml0
  have hown : s.vm.findClass "java/lang/AbstractStringBuilder" = some m.cls := findClass_of_methodNamed Bd.named
  have hnm := (name_of_methodNamed Bd.named Bd.method).1
  have hlk : meth.locks = false := Bd.notSynchronized
  have X0 : Stand p l e (Rm 3 0 0 56) s m #[(.ref sb), (.ref sg)] below meth c s₁ [] 0 0 := Stand.of_body Bd
  have e0 : s₁.heap = h0 := by rw [← hh, Bd.state]; rfl
  have N0 := Fr.nil n0
  have K0 := Keep.refl h0 [sb, vb]
  refine Comes.out (Q := Q_aa6_8 Z sb sg sv kv vs cs vb kb wl h0 n0) (kc := (Rm 3 0 0 56).cells) (ks := (Rm 3 0 0 56).slots) ?_
  refine Comes.cast (ef_aa6_8 m sb sg) ?_
  have lt_sb : sb < h0.size := G0.lt
  have lt_sg : sg < h0.size := G4.lt
  have lt_sv : sv < h0.size := G7.lt
  have lt_vb : vb < h0.size := G8.lt
  show Comes p e below _ (s₁.setTop (mkF m 0 #[.val (.ref sb), .val (.ref sg), .unset] []))
  refine Comes.st (fun t k => XS.aloadN X0.here hx rfl (hb hby d8_0) rfl rfl (XS.ifnonnullYes X0.here hx rfl (pc0 := 1) (pc' := 9) rfl (hb hby d8_1) rfl (by decide) (by decide) (XS.aloadN X0.here hx rfl (hb hby d8_9) rfl rfl k))) ?_
  show Comes p e below _ (s₁.setTop (mkF m 10 #[.val (.ref sb), .val (.ref sg), .unset] [(.ref sg)]))
  obtain ⟨cq1, kq1, q1a, q1b, q1c⟩ := isOf hZ e0 G4
  obtain ⟨_, _, ⟨T1, L1, k1, n1⟩, -, X1, ⟨Lc1, hQ1, l1, y1, z1⟩, st1⟩ := X0.virtualBack hx (y := (⟨"java/lang/String", "length", "()I"⟩ : MethodName)) (z := (⟨"java/lang/String", "length", "()I"⟩ : MethodName)) hown (mvT hZ (W hw 58)) (mvT hZ (W hw 59)) (notFace_of_selects (args := #[]) (mvT hZ (W hw 61))) (mvT hZ (W hw 61)) (mvT hZ (W hw 60)) (by decide) (backOf (W := 0) (len8 l Z a0 hw [] sg sv kv vs cs h0 n0 (by omega)  G4 G5 G6 G7 G11 (by assumption) G13) hZ (W hw 62) (W hw 12) (by decide) (by decide)) q1a q1c (g := (mkF m 10 #[.val (.ref sb), .val (.ref sg), .unset] [(.ref sg)])) rfl (by rw [hml]; rfl) (Steps.refl _) (argsL := []) (rest := []) (lenOf pd_4 rfl) rfl (by show 2 * 0 + _ ≤ _; exact Nat.le_of_eq rfl) (hb hby d8_10) (fun _ _ => ⟨rfl, e0, (by decide : 0 + 0 ≤ _), (by decide : 0 + 0 ≤ _)⟩)
  dsimp only [Pt.U, Pt.locs, Pt.cells, Pt.slots] at X1 l1 y1 z1 st1 hQ1
  subst l1 y1 z1
  obtain ⟨rfl, Nq1, hs1⟩ := hQ1
  have N1 := Fr.app N0 Nq1
  refine Comes.go st1 ?_
  show Comes p e below _ (T1.setTop (mkF m 13 #[.val (.ref sb), .val (.ref sg), .unset] [(.int (8 : Int32))]))
  refine Comes.st (fun t k => XS.istoreN X1.here hx rfl (hb hby d8_13) rfl (l' := #[.val (.ref sb), .val (.ref sg), .val (.int (8 : Int32))]) rfl (XS.aloadN X1.here hx rfl (hb hby d8_14) rfl rfl (XS.aloadN X1.here hx rfl (hb hby d8_15) rfl rfl k))) ?_
  show Comes p e below _ (T1.setTop (mkF m 16 #[.val (.ref sb), .val (.ref sg), .val (.int (8 : Int32))] [(.ref sb), (.ref sb)]))
  obtain ⟨T2, X2, e2, st2⟩ := getF X1 hx hZ hown (host := "") (Or.inl (W hw 71)) Via.refl hs1 G3 (g := (mkF m 16 #[.val (.ref sb), .val (.ref sg), .val (.int (8 : Int32))] [(.ref sb), (.ref sb)])) rfl rfl (hb hby d8_16)
  refine Comes.st st2 ?_
  show Comes p e below _ (T2.setTop (mkF m 19 #[.val (.ref sb), .val (.ref sg), .val (.int (8 : Int32))] [(.int (6 : Int32)), (.ref sb)]))
  refine Comes.st (fun t k => XS.iloadN X2.here hx rfl (hb hby d8_19) rfl (XS.iadd X2.here hx rfl (hb hby d8_20) rfl k)) ?_
  show Comes p e below _ (T2.setTop (mkF m 21 #[.val (.ref sb), .val (.ref sg), .val (.int (8 : Int32))] [(.int ((6 : Int32) + (8 : Int32))), (.ref sb)]))
  rw [show ((6 : Int32) + (8 : Int32)) = (14 : Int32) from by decide]
  show Comes p e below _ (T2.setTop (mkF m 21 #[.val (.ref sb), .val (.ref sg), .val (.int (8 : Int32))] [(.int (14 : Int32)), (.ref sb)]))
  obtain ⟨cq3, q3, q3'⟩ := G0.cell
  obtain ⟨_, _, ⟨T3, L3, k3, n3⟩, -, X3, ⟨Lc3, hQ3, l3, y3, z3⟩, st3⟩ := X2.privateBack hx (y := (⟨"java/lang/AbstractStringBuilder", "ensureCapacityInternal", "(I)V"⟩ : MethodName)) hown (mvT hZ (W hw 73)) (mvT hZ (W hw 74)) (mvT hZ (own_selq (y := (⟨"java/lang/AbstractStringBuilder", "ensureCapacityInternal", "(I)V"⟩ : MethodName)) (W hw 76) (W hw 75) (W hw 74) (by decide))) (Cond.privateMethod_at (mvP hZ (W hw 75) (args := #[]))) (mvT hZ (W hw 77)) (by decide) (backOf (W := 0) (ens14 l Z a0 hw [] sb vb kb wl ((6 : Int32)) h0 n0 (by omega)  G0 G1 G2 G3 G8) hZ (W hw 77) (W hw 40) (by decide) (by decide)) (g := (mkF m 21 #[.val (.ref sb), .val (.ref sg), .val (.int (8 : Int32))] [(.int (14 : Int32)), (.ref sb)])) rfl (by rw [hml]; rfl) (Steps.refl _) (a := sb) (by rw [e2]; exact q3) q3' (argsL := [(.int (14 : Int32))]) (rest := []) (lenOf pd_0 rfl) rfl (by show 2 * 0 + _ ≤ _; exact Nat.le_of_eq rfl) (hb hby d8_21) (fun _ _ => ⟨rfl, e2, (by decide : 0 + 0 ≤ _), (by decide : 0 + 0 ≤ _)⟩)
  dsimp only [Pt.U, Pt.locs, Pt.cells, Pt.slots] at X3 l3 y3 z3 st3 hQ3
  subst l3 y3 z3
  obtain ⟨rfl, Nq3, hs3⟩ := hQ3
  have N3 := Fr.app N1 Nq3
  refine Comes.go st3 ?_
  show Comes p e below _ (T3.setTop (mkF m 24 #[.val (.ref sb), .val (.ref sg), .val (.int (8 : Int32))] []))
  refine Comes.st (fun t k => XS.aloadN X3.here hx rfl (hb hby d8_24) rfl rfl (XS.aloadN X3.here hx rfl (hb hby d8_25) rfl rfl k)) ?_
  show Comes p e below _ (T3.setTop (mkF m 26 #[.val (.ref sb), .val (.ref sg), .val (.int (8 : Int32))] [(.ref sb), (.ref sb)]))
  obtain ⟨T4, X4, e4, st4⟩ := getF X3 hx hZ hown (host := "") (Or.inl (W hw 71)) Via.refl hs3 G3 (g := (mkF m 26 #[.val (.ref sb), .val (.ref sg), .val (.int (8 : Int32))] [(.ref sb), (.ref sb)])) rfl rfl (hb hby d8_26)
  refine Comes.st st4 ?_
  show Comes p e below _ (T4.setTop (mkF m 29 #[.val (.ref sb), .val (.ref sg), .val (.int (8 : Int32))] [(.int (6 : Int32)), (.ref sb)]))
  refine Comes.st (fun t k => XS.aloadN X4.here hx rfl (hb hby d8_29) rfl rfl k) ?_
  show Comes p e below _ (T4.setTop (mkF m 30 #[.val (.ref sb), .val (.ref sg), .val (.int (8 : Int32))] [(.ref sg), (.int (6 : Int32)), (.ref sb)]))
  obtain ⟨cq5, q5, q5'⟩ := G0.cell
  obtain ⟨_, _, ⟨T5, L5, k5, n5⟩, -, X5, ⟨Lc5, hQ5, l5, y5, z5⟩, st5⟩ := X4.privateBack hx (y := (⟨"java/lang/AbstractStringBuilder", "putStringAt", "(ILjava/lang/String;)V"⟩ : MethodName)) hown (mvT hZ (W hw 78)) (mvT hZ (W hw 79)) (mvT hZ (own_selq (y := (⟨"java/lang/AbstractStringBuilder", "putStringAt", "(ILjava/lang/String;)V"⟩ : MethodName)) (W hw 81) (W hw 80) (W hw 79) (by decide))) (Cond.privateMethod_at (mvP hZ (W hw 80) (args := #[]))) (mvT hZ (W hw 82)) (by decide) (backOf (W := 0) (ps6_8 l Z a0 hw [] sb sg sv kv vs cs vb kb wl h0 n0 (by omega)  G0 G1 G2 G3 G4 G5 G6 G7 G8 G9 (by first | assumption | rfl) G11 (by assumption) G13 G14 (by omega) G16 G17) hZ (W hw 82) (W hw 40) (by decide) (by decide)) (g := (mkF m 30 #[.val (.ref sb), .val (.ref sg), .val (.int (8 : Int32))] [(.ref sg), (.int (6 : Int32)), (.ref sb)])) rfl (by rw [hml]; rfl) (Steps.refl _) (a := sb) (by rw [e4]; exact q5) q5' (argsL := [(.int (6 : Int32)), (.ref sg)]) (rest := []) (lenOf pd_5 rfl) rfl (by show 2 * 0 + _ ≤ _; exact Nat.le_of_eq rfl) (hb hby d8_30) (fun _ _ => ⟨rfl, e4, (by decide : 0 + 0 ≤ _), (by decide : 0 + 0 ≤ _)⟩)
  dsimp only [Pt.U, Pt.locs, Pt.cells, Pt.slots] at X5 l5 y5 z5 st5 hQ5
  subst l5 y5 z5
  obtain ⟨r6, rfl, Nq5, Kq5, P5_0, P5_1⟩ := hQ5
  have N5 := Fr.app N3 Nq5
  have z5k : h0.size ≤ T5.heap.size := Kq5.1
  have K5 : Keep h0 T5.heap [sb, vb] := K0.trans Kq5 (allS (Or.inl (List.mem_of_getElem? (i := 1) rfl)) all0)
  refine Comes.go st5 ?_
  show Comes p e below _ (T5.setTop (mkF m 33 #[.val (.ref sb), .val (.ref sg), .val (.int (8 : Int32))] []))
  refine Comes.st (fun t k => XS.aloadN X5.here hx rfl (hb hby d8_33) rfl rfl (XS.dup X5.here hx rfl (hb hby d8_34) rfl rfl k)) ?_
  show Comes p e below _ (T5.setTop (mkF m 35 #[.val (.ref sb), .val (.ref sg), .val (.int (8 : Int32))] [(.ref sb), (.ref sb)]))
  have F7 : Fld Z T5.heap sb "java/lang/AbstractStringBuilder" "count" "I" (.int (6 : Int32)) := (G3.keep Kq5 (ninS G16 nin0))
  obtain ⟨T8, X8, e8, st8⟩ := getF X5 hx hZ hown (host := "") (Or.inl (W hw 71)) Via.refl rfl F7 (g := (mkF m 35 #[.val (.ref sb), .val (.ref sg), .val (.int (8 : Int32))] [(.ref sb), (.ref sb)])) rfl rfl (hb hby d8_35)
  refine Comes.st st8 ?_
  show Comes p e below _ (T8.setTop (mkF m 38 #[.val (.ref sb), .val (.ref sg), .val (.int (8 : Int32))] [(.int (6 : Int32)), (.ref sb)]))
  refine Comes.st (fun t k => XS.iloadN X8.here hx rfl (hb hby d8_38) rfl (XS.iadd X8.here hx rfl (hb hby d8_39) rfl k)) ?_
  show Comes p e below _ (T8.setTop (mkF m 40 #[.val (.ref sb), .val (.ref sg), .val (.int (8 : Int32))] [(.int ((6 : Int32) + (8 : Int32))), (.ref sb)]))
  rw [show ((6 : Int32) + (8 : Int32)) = (14 : Int32) from by decide]
  show Comes p e below _ (T8.setTop (mkF m 40 #[.val (.ref sb), .val (.ref sg), .val (.int (8 : Int32))] [(.int (14 : Int32)), (.ref sb)]))
  have F9 : Exa Z T5.heap sb "java/lang/StringBuilder" := (G0.keep Kq5)
  obtain ⟨T10, h10, X10, e10, W10, st10⟩ := putF X8 hx hZ hown (host := "") (Or.inl (W hw 71)) Via.refl e8 F7 F9 (Or.inl (W hw 72)) (W hw 31) (ty := .int) (by decide) rfl rfl (g := (mkF m 40 #[.val (.ref sb), .val (.ref sg), .val (.int (8 : Int32))] [(.int (14 : Int32)), (.ref sb)])) rfl rfl (hb hby d8_40)
  have Fw10 := F7.same W10
  have z10 : h10.size = T5.heap.size := W10.size
  have gn11 : n0 ≤ sb := by omega
  have N10 := Fr.snoc X10 N5 gn11
  have K10 : Keep h0 h10 [sb, vb] := K5.wr W10 (Or.inl (List.mem_of_getElem? (i := 0) rfl))
  refine Comes.st st10 ?_
  show Comes p e below _ (T10.setTop (mkF m 43 #[.val (.ref sb), .val (.ref sg), .val (.int (8 : Int32))] []))
  refine Comes.st (fun t k => XS.aloadN X10.here hx rfl (hb hby d8_43) rfl rfl k) ?_
  show Comes p e below _ (T10.setTop (mkF m 44 #[.val (.ref sb), .val (.ref sg), .val (.int (8 : Int32))] [(.ref sb)]))
  have F12 : Exa Z h10 sb "java/lang/StringBuilder" := (F9.wr W10)
  have F13 : Fld Z h10 sb "java/lang/AbstractStringBuilder" "value" "[B" (.ref vb) := ((G1.keep Kq5 (ninS G16 nin0)).other W10 (Or.inr (slot_ne (Or.inl (W hw 45)) (Or.inl (W hw 72)) (by decide) (t := (.array .byte)) (t' := .int) (by decide) (by decide))))
  have F14 : Fld Z h10 sb "java/lang/AbstractStringBuilder" "coder" "B" (.int (0 : Int32)) := ((G2.keep Kq5 (ninS G16 nin0)).other W10 (Or.inr (slot_ne (Or.inl (W hw 47)) (Or.inl (W hw 72)) (by decide) (t := .byte) (t' := .int) (by decide) (by decide))))
  have F15 : Arv Z h10 vb kb .byte (16 : Int32) r6 (.int (0 : Int32)) := (P5_0.other W10 (Ne.symm G16))
  have F16 : Exa Z h10 vb "[B" := ((G9.keep Kq5).wr W10)
  exact Comes.retV X10 hx Bd.returns (narrow_ref rfl) (Or.inr (Or.inr (Or.inr (Or.inr ⟨rfl, rfl, rfl⟩)))) hlk (hb hby d8_44) e10 ⟨r6, rfl, N10, K10, F12, F13, F14, Fw10, F15, (by assumption), F16⟩ (by decide) (by decide)
def Q_ap6_8 (Z : State) (sb sg sv : Nat) (kv : ClassId) (vs : List Value) (cs : Int32) (vb : Nat) (kb : ClassId) (wl : List Value) (h0 : Heap) (n0 : Nat) (v_ : Option Value) (h : Heap) (L_ : List Loc) : Prop := ∃ (wm : List Value), (v_ = some (.ref sb)) ∧ (Fr n0 L_) ∧ (Keep h0 h [sb, vb]) ∧ (Exa Z h sb "java/lang/StringBuilder") ∧ (Fld Z h sb "java/lang/AbstractStringBuilder" "value" "[B" (.ref vb)) ∧ (Fld Z h sb "java/lang/AbstractStringBuilder" "coder" "B" (.int (0 : Int32))) ∧ (Fld Z h sb "java/lang/AbstractStringBuilder" "count" "I" (.int (14 : Int32))) ∧ (Arv Z h vb kb .byte (16 : Int32) wm (.int (0 : Int32))) ∧ (wm.length = 16) ∧ (Exa Z h vb "[B")
theorem ap6_8 (l : Launch) (Z : State) (a0 : Array Value) (hw : ∀ d ∈ tables_1, d.before a0 Z = true) (ws : List Jvm.Cond) (sb sg sv : Nat) (kv : ClassId) (vs : List Value) (cs : Int32) (vb : Nat) (kb : ClassId) (wl : List Value) (h0 : Heap) (n0 : Nat) (Z0 : n0 ≤ h0.size) (G0 : Exa Z h0 sb "java/lang/StringBuilder") (G1 : Fld Z h0 sb "java/lang/AbstractStringBuilder" "value" "[B" (.ref vb)) (G2 : Fld Z h0 sb "java/lang/AbstractStringBuilder" "coder" "B" (.int (0 : Int32))) (G3 : Fld Z h0 sb "java/lang/AbstractStringBuilder" "count" "I" (.int (6 : Int32))) (G4 : Exa Z h0 sg "java/lang/String") (G5 : Fld Z h0 sg "java/lang/String" "value" "[B" (.ref sv)) (G6 : Fld Z h0 sg "java/lang/String" "coder" "B" (.int (0 : Int32))) (G7 : Arv Z h0 sv kv .byte (8 : Int32) vs (.int (0 : Int32))) (G8 : Arv Z h0 vb kb .byte (16 : Int32) wl (.int (0 : Int32))) (G9 : Exa Z h0 vb "[B") (G10 : wl.length = 16) (G11 : Sta Z Z.heap "java/lang/String" "COMPACT_STRINGS" "Z" (.int cs)) (G12 : ¬ (cs = (0 : Int32))) (G13 : Old Z n0 h0) (G14 : sv ≠ vb) (G15 : n0 ≤ vb) (G16 : sb ≠ vb) (G17 : sg ≠ vb) (G18 : n0 ≤ sb) (G19 : sg ≠ sb) (G20 : sv ≠ sb) :
    MetFree l (⟨"java/lang/StringBuilder", "append", "(Ljava/lang/String;)Ljava/lang/StringBuilder;"⟩ : MethodName) (head1 (Jvm.Cond.code (⟨"java/lang/StringBuilder", "append", "(Ljava/lang/String;)Ljava/lang/StringBuilder;"⟩ : MethodName) jdk_67_method_7_code 2 (some (.object "java/lang/StringBuilder")) :: ws) (Rm 4 0 0 70)) (fun a_ U_ => a_ = #[(.ref sb), (.ref sg)] ∧ Z.Warmed39 U_.vm ∧ U_.heap = h0) (fun _ _ _ _ _ => True) (fun _ U_ o_ V_ => ∃ v_ L_, o_ = .returned v_ ∧ Q_ap6_8 Z sb sg sv kv vs cs vb kb wl h0 n0 v_ V_.heap L_ ∧ FrameEnd U_ o_ V_ L_ (Rm 4 0 0 70).cells (Rm 4 0 0 70).slots) := by
  refine MetFree.of_bodySF (plainFor_of_name pn_7) hisR ?_
  intro p e s m args below meth c s₁ Bd hml0 hP hK
  obtain ⟨rfl, hZ, hh⟩ := hP
  have hx := Bd.exec
  have hby := Bd.bytes
  have hml : c.maxLocals = 2 := hml0
  have hown : s.vm.findClass "java/lang/StringBuilder" = some m.cls := findClass_of_methodNamed Bd.named
  have hnm := (name_of_methodNamed Bd.named Bd.method).1
  have hlk : meth.locks = false := Bd.notSynchronized
  have X0 : Stand p l e (Rm 4 0 0 70) s m #[(.ref sb), (.ref sg)] below meth c s₁ [] 0 0 := Stand.of_body Bd
  have e0 : s₁.heap = h0 := by rw [← hh, Bd.state]; rfl
  have N0 := Fr.nil n0
  have K0 := Keep.refl h0 [sb, vb]
  refine Comes.out (Q := Q_ap6_8 Z sb sg sv kv vs cs vb kb wl h0 n0) (kc := (Rm 4 0 0 70).cells) (ks := (Rm 4 0 0 70).slots) ?_
  refine Comes.cast (ef_ap6_8 m sb sg) ?_
  have lt_sb : sb < h0.size := G0.lt
  have lt_sg : sg < h0.size := G4.lt
  have lt_sv : sv < h0.size := G7.lt
  have lt_vb : vb < h0.size := G8.lt
  show Comes p e below _ (s₁.setTop (mkF m 0 #[.val (.ref sb), .val (.ref sg)] []))
  refine Comes.st (fun t k => XS.aloadN X0.here hx rfl (hb hby d7_0) rfl rfl (XS.aloadN X0.here hx rfl (hb hby d7_1) rfl rfl k)) ?_
  show Comes p e below _ (s₁.setTop (mkF m 2 #[.val (.ref sb), .val (.ref sg)] [(.ref sg), (.ref sb)]))
  obtain ⟨_, _, ⟨T1, L1, k1, n1⟩, -, X1, ⟨Lc1, hQ1, l1, y1, z1⟩, st1⟩ := superBack X0 hx hZ (y := (⟨"java/lang/AbstractStringBuilder", "append", "(Ljava/lang/String;)Ljava/lang/AbstractStringBuilder;"⟩ : MethodName)) hown (W hw 53) (own_same (y := (⟨"java/lang/AbstractStringBuilder", "append", "(Ljava/lang/String;)Ljava/lang/AbstractStringBuilder;"⟩ : MethodName)) (z := (⟨"java/lang/AbstractStringBuilder", "ensureCapacityInternal", "(I)V"⟩ : MethodName)) (W hw 76) rfl (W hw 54) (by decide)) (W hw 54) (W hw 55) (by decide) (backOf (W := 0) (aa6_8 l Z a0 hw [] sb sg sv kv vs cs vb kb wl h0 n0 (by omega)  G0 G1 G2 G3 G4 G5 G6 G7 G8 G9 (by first | assumption | rfl) G11 (by assumption) G13 G14 (by omega) G16 G17 (by omega) G19 G20) hZ (W hw 57) (W hw 40) (by decide) (by decide)) e0 (Ins.self G0) (g := (mkF m 2 #[.val (.ref sb), .val (.ref sg)] [(.ref sg), (.ref sb)])) rfl (by rw [hml]; rfl) (W hw 57) (argsL := [(.ref sg)]) (rest := []) (lenOf pd_6 rfl) rfl (by show 2 * 0 + _ ≤ _; exact Nat.le_of_eq rfl) (hb hby d7_2) (fun _ _ => ⟨rfl, e0, (by decide : 0 + 0 ≤ _), (by decide : 0 + 0 ≤ _)⟩)
  dsimp only [Pt.U, Pt.locs, Pt.cells, Pt.slots] at X1 l1 y1 z1 st1 hQ1
  subst l1 y1 z1
  obtain ⟨r2, rfl, Nq1, Kq1, P1_0, P1_1, P1_2, P1_3, P1_4, P1_5, P1_6⟩ := hQ1
  have N1 := Fr.app N0 Nq1
  have z1k : h0.size ≤ T1.heap.size := Kq1.1
  have K1 : Keep h0 T1.heap [sb, vb] := K0.trans Kq1 (allS (Or.inl (List.mem_of_getElem? (i := 0) rfl)) (allS (Or.inl (List.mem_of_getElem? (i := 1) rfl)) all0))
  refine Comes.go st1 ?_
  show Comes p e below _ (T1.setTop (mkF m 5 #[.val (.ref sb), .val (.ref sg)] [(.ref sb)]))
  refine Comes.st (fun t k => XS.pop X1.here hx rfl (hb hby d7_5) rfl rfl (XS.aloadN X1.here hx rfl (hb hby d7_6) rfl rfl k)) ?_
  show Comes p e below _ (T1.setTop (mkF m 7 #[.val (.ref sb), .val (.ref sg)] [(.ref sb)]))
  exact Comes.retV X1 hx Bd.returns (narrow_ref rfl) (Or.inr (Or.inr (Or.inr (Or.inr ⟨rfl, rfl, rfl⟩)))) hlk (hb hby d7_7) rfl ⟨r2, rfl, N1, K1, P1_0, P1_1, P1_2, P1_3, P1_4, (by assumption), P1_6⟩ (by decide) (by decide)
def Q_gb7_8 (Z : State) (sg vb sv : Nat) (kv : ClassId) (vs : List Value) (cs : Int32) (kb : ClassId) (wl : List Value) (h0 : Heap) (n0 : Nat) (v_ : Option Value) (h : Heap) (L_ : List Loc) : Prop := ∃ (wm : List Value), (v_ = none) ∧ (Fr n0 L_) ∧ (Keep h0 h [vb]) ∧ (Arv Z h vb kb .byte (16 : Int32) wm (.int (0 : Int32))) ∧ (wm.length = 16)
theorem gb7_8 (l : Launch) (Z : State) (a0 : Array Value) (hw : ∀ d ∈ tables_1, d.before a0 Z = true) (ws : List Jvm.Cond) (sg vb sv : Nat) (kv : ClassId) (vs : List Value) (cs : Int32) (kb : ClassId) (wl : List Value) (h0 : Heap) (n0 : Nat) (Z0 : n0 ≤ h0.size) (G0 : Exa Z h0 sg "java/lang/String") (G1 : Fld Z h0 sg "java/lang/String" "value" "[B" (.ref sv)) (G2 : Fld Z h0 sg "java/lang/String" "coder" "B" (.int (0 : Int32))) (G3 : Arv Z h0 sv kv .byte (8 : Int32) vs (.int (0 : Int32))) (G4 : Arv Z h0 vb kb .byte (16 : Int32) wl (.int (0 : Int32))) (G5 : Exa Z h0 vb "[B") (G6 : wl.length = 16) (G7 : Sta Z Z.heap "java/lang/String" "COMPACT_STRINGS" "Z" (.int cs)) (G8 : ¬ (cs = (0 : Int32))) (G9 : Old Z n0 h0) (G10 : sv ≠ vb) (G11 : n0 ≤ vb) :
    MetFree l (⟨"java/lang/String", "getBytes", "([BIB)V"⟩ : MethodName) (head1 (Jvm.Cond.code (⟨"java/lang/String", "getBytes", "([BIB)V"⟩ : MethodName) jdk_42_method_147_code 4 none :: ws) (Rm 1 0 0 27)) (fun a_ U_ => a_ = #[(.ref sg), (.ref vb), (.int (7 : Int32)), (.int (0 : Int32))] ∧ Z.Warmed39 U_.vm ∧ U_.heap = h0) (fun _ _ _ _ _ => True) (fun _ U_ o_ V_ => ∃ v_ L_, o_ = .returned v_ ∧ Q_gb7_8 Z sg vb sv kv vs cs kb wl h0 n0 v_ V_.heap L_ ∧ FrameEnd U_ o_ V_ L_ (Rm 1 0 0 27).cells (Rm 1 0 0 27).slots) := by
  refine MetFree.of_bodySF (plainFor_of_name pn_14) hisR ?_
  intro p e s m args below meth c s₁ Bd hml0 hP hK
  obtain ⟨rfl, hZ, hh⟩ := hP
  have hx := Bd.exec
  have hby := Bd.bytes
  have hml : c.maxLocals = 4 := hml0
  have hown : s.vm.findClass "java/lang/String" = some m.cls := findClass_of_methodNamed Bd.named
  have hnm := (name_of_methodNamed Bd.named Bd.method).1
  have hlk : meth.locks = false := Bd.notSynchronized
  have X0 : Stand p l e (Rm 1 0 0 27) s m #[(.ref sg), (.ref vb), (.int (7 : Int32)), (.int (0 : Int32))] below meth c s₁ [] 0 0 := Stand.of_body Bd
  have e0 : s₁.heap = h0 := by rw [← hh, Bd.state]; rfl
  have N0 := Fr.nil n0
  have K0 := Keep.refl h0 [vb]
  refine Comes.out (Q := Q_gb7_8 Z sg vb sv kv vs cs kb wl h0 n0) (kc := (Rm 1 0 0 27).cells) (ks := (Rm 1 0 0 27).slots) ?_
  refine Comes.cast (ef_gb7_8 m sg vb) ?_
  have lt_sg : sg < h0.size := G0.lt
  have lt_sv : sv < h0.size := G3.lt
  have lt_vb : vb < h0.size := G4.lt
  show Comes p e below _ (s₁.setTop (mkF m 0 #[.val (.ref sg), .val (.ref vb), .val (.int (7 : Int32)), .val (.int (0 : Int32))] []))
  refine Comes.st (fun t k => XS.aloadN X0.here hx rfl (hb hby d14_0) rfl rfl k) ?_
  show Comes p e below _ (s₁.setTop (mkF m 1 #[.val (.ref sg), .val (.ref vb), .val (.int (7 : Int32)), .val (.int (0 : Int32))] [(.ref sg)]))
  obtain ⟨cq1, kq1, q1a, q1b, q1c⟩ := isOf hZ e0 G0
  obtain ⟨_, _, ⟨T1, L1, k1, n1⟩, -, X1, ⟨Lc1, hQ1, l1, y1, z1⟩, st1⟩ := X0.virtualBack hx (y := (⟨"java/lang/String", "coder", "()B"⟩ : MethodName)) (z := (⟨"java/lang/String", "coder", "()B"⟩ : MethodName)) hown (mvT hZ (W hw 64)) (mvT hZ (W hw 65)) (notFace_of_selects (args := #[]) (mvT hZ (W hw 67))) (mvT hZ (W hw 67)) (mvT hZ (W hw 66)) (by decide) (backOf (W := 0) (rm10 l Z a0 hw [] sg cs h0 n0 (by omega)  G2 G7 (by assumption) G9) hZ (W hw 68) (W hw 12) (by decide) (by decide)) q1a q1c (g := (mkF m 1 #[.val (.ref sg), .val (.ref vb), .val (.int (7 : Int32)), .val (.int (0 : Int32))] [(.ref sg)])) rfl (by rw [hml]; rfl) (Steps.refl _) (argsL := []) (rest := []) (lenOf pd_1 rfl) rfl (by show 2 * 0 + _ ≤ _; exact Nat.le_of_eq rfl) (hb hby d14_1) (fun _ _ => ⟨rfl, e0, (by decide : 0 + 0 ≤ _), (by decide : 0 + 0 ≤ _)⟩)
  dsimp only [Pt.U, Pt.locs, Pt.cells, Pt.slots] at X1 l1 y1 z1 st1 hQ1
  subst l1 y1 z1
  obtain ⟨rfl, Nq1, hs1⟩ := hQ1
  have N1 := Fr.app N0 Nq1
  refine Comes.go st1 ?_
  show Comes p e below _ (T1.setTop (mkF m 4 #[.val (.ref sg), .val (.ref vb), .val (.int (7 : Int32)), .val (.int (0 : Int32))] [(.int (0 : Int32))]))
  refine Comes.st (fun t k => XS.iloadN X1.here hx rfl (hb hby d14_4) rfl k) ?_
  show Comes p e below _ (T1.setTop (mkF m 5 #[.val (.ref sg), .val (.ref vb), .val (.int (7 : Int32)), .val (.int (0 : Int32))] [(.int (0 : Int32)), (.int (0 : Int32))]))
  have hc5_2 : (0 : Int32) = (0 : Int32) := by decide
  refine Comes.st (fun t k => XS.icmpNo X1.here hx rfl (hb hby d14_5) rfl (teq hc5_2).2 (XS.aloadN X1.here hx rfl (hb hby d14_8) rfl rfl k)) ?_
  show Comes p e below _ (T1.setTop (mkF m 9 #[.val (.ref sg), .val (.ref vb), .val (.int (7 : Int32)), .val (.int (0 : Int32))] [(.ref sg)]))
  obtain ⟨T3, X3, e3, st3⟩ := getF X1 hx hZ hown (host := "") (Or.inl (W hw 63)) Via.refl hs1 G1 (g := (mkF m 9 #[.val (.ref sg), .val (.ref vb), .val (.int (7 : Int32)), .val (.int (0 : Int32))] [(.ref sg)])) rfl rfl (hb hby d14_9)
  refine Comes.st st3 ?_
  show Comes p e below _ (T3.setTop (mkF m 12 #[.val (.ref sg), .val (.ref vb), .val (.int (7 : Int32)), .val (.int (0 : Int32))] [(.ref sv)]))
  refine Comes.st (fun t k => XS.iconst X3.here hx rfl (hb hby d14_12) (XS.aloadN X3.here hx rfl (hb hby d14_13) rfl rfl (XS.iloadN X3.here hx rfl (hb hby d14_14) rfl (XS.iloadN X3.here hx rfl (hb hby d14_15) rfl (XS.ishl X3.here hx rfl (hb hby d14_16) rfl k))))) ?_
  show Comes p e below _ (T3.setTop (mkF m 17 #[.val (.ref sg), .val (.ref vb), .val (.int (7 : Int32)), .val (.int (0 : Int32))] [(.int ((7 : Int32) <<< ((0 : Int32) &&& 31))), (.ref vb), (.int (0 : Int32)), (.ref sv)]))
  rw [show ((7 : Int32) <<< ((0 : Int32) &&& 31)) = (7 : Int32) from by decide]
  show Comes p e below _ (T3.setTop (mkF m 17 #[.val (.ref sg), .val (.ref vb), .val (.int (7 : Int32)), .val (.int (0 : Int32))] [(.int (7 : Int32)), (.ref vb), (.int (0 : Int32)), (.ref sv)]))
  refine Comes.st (fun t k => XS.aloadN X3.here hx rfl (hb hby d14_17) rfl rfl k) ?_
  show Comes p e below _ (T3.setTop (mkF m 18 #[.val (.ref sg), .val (.ref vb), .val (.int (7 : Int32)), .val (.int (0 : Int32))] [(.ref sg), (.int (7 : Int32)), (.ref vb), (.int (0 : Int32)), (.ref sv)]))
  obtain ⟨T4, X4, e4, st4⟩ := getF X3 hx hZ hown (host := "") (Or.inl (W hw 63)) Via.refl e3 G1 (g := (mkF m 18 #[.val (.ref sg), .val (.ref vb), .val (.int (7 : Int32)), .val (.int (0 : Int32))] [(.ref sg), (.int (7 : Int32)), (.ref vb), (.int (0 : Int32)), (.ref sv)])) rfl rfl (hb hby d14_18)
  refine Comes.st st4 ?_
  show Comes p e below _ (T4.setTop (mkF m 21 #[.val (.ref sg), .val (.ref vb), .val (.int (7 : Int32)), .val (.int (0 : Int32))] [(.ref sv), (.int (7 : Int32)), (.ref vb), (.int (0 : Int32)), (.ref sv)]))
  obtain ⟨cl5, Ar5, -, S5, Ng5, -, -⟩ := id G3
  refine Comes.st (fun t k => X4.arraylength hx (by rw [e4]; exact Ar5.1) (State.isArrayOf_alike hZ.alike Ar5.2.1) (g := (mkF m 21 #[.val (.ref sg), .val (.ref vb), .val (.int (7 : Int32)), .val (.int (0 : Int32))] [(.ref sv), (.int (7 : Int32)), (.ref vb), (.int (0 : Int32)), (.ref sv)])) rfl rfl (hb hby d14_21) _ k) ?_
  rw [len_of S5 Ng5]
  show Comes p e below _ (T4.setTop (mkF m 22 #[.val (.ref sg), .val (.ref vb), .val (.int (7 : Int32)), .val (.int (0 : Int32))] [(.int (8 : Int32)), (.int (7 : Int32)), (.ref vb), (.int (0 : Int32)), (.ref sv)]))
  obtain ⟨T6, h6, L6, X6, e6, N6, Kq6, V6, st6⟩ := cpA X4 hx hZ hown (W hw 94) (W hw 97) (W hw 95) (W hw 96) e4 G3 G4 (Or.inl ⟨rfl, rfl⟩) (by decide) (by decide) (by decide) (by decide) (by decide) rfl (by rw [G6]; decide) N1 (by omega) (g := (mkF m 22 #[.val (.ref sg), .val (.ref vb), .val (.int (7 : Int32)), .val (.int (0 : Int32))] [(.int (8 : Int32)), (.int (7 : Int32)), (.ref vb), (.int (0 : Int32)), (.ref sv)])) rfl (by rw [hml]; rfl) (rest := []) rfl (hb hby d14_22) (by decide) (W := 0) (by show 2 * 0 + _ ≤ _; exact Nat.le_of_eq rfl) (by decide)
  have z6 : h0.size ≤ h6.size := Kq6.1
  have K6 : Keep h0 h6 [vb] := K0.trans Kq6 (allS (Or.inl (List.mem_of_getElem? (i := 0) rfl)) all0)
  obtain ⟨w6, V6', hl6⟩ : ∃ w_ : List Value, Arv Z h6 vb kb .byte (16 : Int32) w_ (.int (0 : Int32)) ∧ w_.length = 16 := ⟨_, V6, by simp [G6]⟩
  refine Comes.st st6 ?_
  show Comes p e below _ (T6.setTop (mkF m 25 #[.val (.ref sg), .val (.ref vb), .val (.int (7 : Int32)), .val (.int (0 : Int32))] []))
  refine Comes.st (fun t k => XS.goto X6.here hx rfl (pc0 := 25) (pc' := 43) rfl (hb hby d14_25) (by decide) (by decide) k) ?_
  show Comes p e below _ (T6.setTop (mkF m 43 #[.val (.ref sg), .val (.ref vb), .val (.int (7 : Int32)), .val (.int (0 : Int32))] []))
  exact Comes.ret0 X6 hx Bd.returns hlk (hb hby d14_43) e6 ⟨w6, rfl, N6, K6, V6', (by assumption)⟩ (by decide) (by decide)
def Q_ps7_8 (Z : State) (sb sg sv : Nat) (kv : ClassId) (vs : List Value) (cs : Int32) (vb : Nat) (kb : ClassId) (wl : List Value) (h0 : Heap) (n0 : Nat) (v_ : Option Value) (h : Heap) (L_ : List Loc) : Prop := ∃ (wm : List Value), (v_ = none) ∧ (Fr n0 L_) ∧ (Keep h0 h [vb]) ∧ (Arv Z h vb kb .byte (16 : Int32) wm (.int (0 : Int32))) ∧ (wm.length = 16)
theorem ps7_8 (l : Launch) (Z : State) (a0 : Array Value) (hw : ∀ d ∈ tables_1, d.before a0 Z = true) (ws : List Jvm.Cond) (sb sg sv : Nat) (kv : ClassId) (vs : List Value) (cs : Int32) (vb : Nat) (kb : ClassId) (wl : List Value) (h0 : Heap) (n0 : Nat) (Z0 : n0 ≤ h0.size) (G0 : Exa Z h0 sb "java/lang/StringBuilder") (G1 : Fld Z h0 sb "java/lang/AbstractStringBuilder" "value" "[B" (.ref vb)) (G2 : Fld Z h0 sb "java/lang/AbstractStringBuilder" "coder" "B" (.int (0 : Int32))) (G3 : Fld Z h0 sb "java/lang/AbstractStringBuilder" "count" "I" (.int (7 : Int32))) (G4 : Exa Z h0 sg "java/lang/String") (G5 : Fld Z h0 sg "java/lang/String" "value" "[B" (.ref sv)) (G6 : Fld Z h0 sg "java/lang/String" "coder" "B" (.int (0 : Int32))) (G7 : Arv Z h0 sv kv .byte (8 : Int32) vs (.int (0 : Int32))) (G8 : Arv Z h0 vb kb .byte (16 : Int32) wl (.int (0 : Int32))) (G9 : Exa Z h0 vb "[B") (G10 : wl.length = 16) (G11 : Sta Z Z.heap "java/lang/String" "COMPACT_STRINGS" "Z" (.int cs)) (G12 : ¬ (cs = (0 : Int32))) (G13 : Old Z n0 h0) (G14 : sv ≠ vb) (G15 : n0 ≤ vb) (G16 : sb ≠ vb) (G17 : sg ≠ vb) :
    MetFree l (⟨"java/lang/AbstractStringBuilder", "putStringAt", "(ILjava/lang/String;)V"⟩ : MethodName) (head1 (Jvm.Cond.code (⟨"java/lang/AbstractStringBuilder", "putStringAt", "(ILjava/lang/String;)V"⟩ : MethodName) jdk_68_method_73_code 3 none :: ws) (Rm 2 0 0 42)) (fun a_ U_ => a_ = #[(.ref sb), (.int (7 : Int32)), (.ref sg)] ∧ Z.Warmed39 U_.vm ∧ U_.heap = h0) (fun _ _ _ _ _ => True) (fun _ U_ o_ V_ => ∃ v_ L_, o_ = .returned v_ ∧ Q_ps7_8 Z sb sg sv kv vs cs vb kb wl h0 n0 v_ V_.heap L_ ∧ FrameEnd U_ o_ V_ L_ (Rm 2 0 0 42).cells (Rm 2 0 0 42).slots) := by
  refine MetFree.of_bodySF (plainFor_of_name pn_12) hisR ?_
  intro p e s m args below meth c s₁ Bd hml0 hP hK
  obtain ⟨rfl, hZ, hh⟩ := hP
  have hx := Bd.exec
  have hby := Bd.bytes
  have hml : c.maxLocals = 3 := hml0
  have hown : s.vm.findClass "java/lang/AbstractStringBuilder" = some m.cls := findClass_of_methodNamed Bd.named
  have hnm := (name_of_methodNamed Bd.named Bd.method).1
  have hlk : meth.locks = false := Bd.notSynchronized
  have X0 : Stand p l e (Rm 2 0 0 42) s m #[(.ref sb), (.int (7 : Int32)), (.ref sg)] below meth c s₁ [] 0 0 := Stand.of_body Bd
  have e0 : s₁.heap = h0 := by rw [← hh, Bd.state]; rfl
  have N0 := Fr.nil n0
  have K0 := Keep.refl h0 [vb]
  refine Comes.out (Q := Q_ps7_8 Z sb sg sv kv vs cs vb kb wl h0 n0) (kc := (Rm 2 0 0 42).cells) (ks := (Rm 2 0 0 42).slots) ?_
  refine Comes.cast (ef_ps7_8 m sb sg) ?_
  have lt_sb : sb < h0.size := G0.lt
  have lt_sg : sg < h0.size := G4.lt
  have lt_sv : sv < h0.size := G7.lt
  have lt_vb : vb < h0.size := G8.lt
  show Comes p e below _ (s₁.setTop (mkF m 0 #[.val (.ref sb), .val (.int (7 : Int32)), .val (.ref sg)] []))
  refine Comes.st (fun t k => XS.aloadN X0.here hx rfl (hb hby d12_0) rfl rfl (XS.aloadN X0.here hx rfl (hb hby d12_1) rfl rfl k)) ?_
  show Comes p e below _ (s₁.setTop (mkF m 2 #[.val (.ref sb), .val (.int (7 : Int32)), .val (.ref sg)] [(.ref sg), (.ref sb)]))
  obtain ⟨cq1, q1, q1'⟩ := G0.cell
  obtain ⟨_, _, ⟨T1, L1, k1, n1⟩, -, X1, ⟨Lc1, hQ1, l1, y1, z1⟩, st1⟩ := X0.privateBack hx (y := (⟨"java/lang/AbstractStringBuilder", "inflateIfNeededFor", "(Ljava/lang/String;)V"⟩ : MethodName)) hown (mvT hZ (W hw 83)) (mvT hZ (W hw 84)) (mvT hZ (own_selq (y := (⟨"java/lang/AbstractStringBuilder", "inflateIfNeededFor", "(Ljava/lang/String;)V"⟩ : MethodName)) (W hw 86) (W hw 85) (W hw 84) (by decide))) (Cond.privateMethod_at (mvP hZ (W hw 85) (args := #[]))) (mvT hZ (W hw 87)) (by decide) (backOf (W := 0) (rm13 l Z a0 hw [] sb sg cs h0 n0 (by omega)  G0 G2 G4 G6 G11 (by assumption) G13) hZ (W hw 87) (W hw 40) (by decide) (by decide)) (g := (mkF m 2 #[.val (.ref sb), .val (.int (7 : Int32)), .val (.ref sg)] [(.ref sg), (.ref sb)])) rfl (by rw [hml]; rfl) (Steps.refl _) (a := sb) (by rw [e0]; exact q1) q1' (argsL := [(.ref sg)]) (rest := []) (lenOf pd_2 rfl) rfl (by show 2 * 0 + _ ≤ _; exact Nat.le_of_eq rfl) (hb hby d12_2) (fun _ _ => ⟨rfl, e0, (by decide : 0 + 0 ≤ _), (by decide : 0 + 0 ≤ _)⟩)
  dsimp only [Pt.U, Pt.locs, Pt.cells, Pt.slots] at X1 l1 y1 z1 st1 hQ1
  subst l1 y1 z1
  obtain ⟨rfl, Nq1, hs1⟩ := hQ1
  have N1 := Fr.app N0 Nq1
  refine Comes.go st1 ?_
  show Comes p e below _ (T1.setTop (mkF m 5 #[.val (.ref sb), .val (.int (7 : Int32)), .val (.ref sg)] []))
  refine Comes.st (fun t k => XS.aloadN X1.here hx rfl (hb hby d12_5) rfl rfl (XS.aloadN X1.here hx rfl (hb hby d12_6) rfl rfl k)) ?_
  show Comes p e below _ (T1.setTop (mkF m 7 #[.val (.ref sb), .val (.int (7 : Int32)), .val (.ref sg)] [(.ref sb), (.ref sg)]))
  obtain ⟨T2, X2, e2, st2⟩ := getF X1 hx hZ hown (host := "") (Or.inl (W hw 44)) Via.refl hs1 G1 (g := (mkF m 7 #[.val (.ref sb), .val (.int (7 : Int32)), .val (.ref sg)] [(.ref sb), (.ref sg)])) rfl rfl (hb hby d12_7)
  refine Comes.st st2 ?_
  show Comes p e below _ (T2.setTop (mkF m 10 #[.val (.ref sb), .val (.int (7 : Int32)), .val (.ref sg)] [(.ref vb), (.ref sg)]))
  refine Comes.st (fun t k => XS.iloadN X2.here hx rfl (hb hby d12_10) rfl (XS.aloadN X2.here hx rfl (hb hby d12_11) rfl rfl k)) ?_
  show Comes p e below _ (T2.setTop (mkF m 12 #[.val (.ref sb), .val (.int (7 : Int32)), .val (.ref sg)] [(.ref sb), (.int (7 : Int32)), (.ref vb), (.ref sg)]))
  obtain ⟨T3, X3, e3, st3⟩ := getF X2 hx hZ hown (host := "") (Or.inl (W hw 46)) Via.refl e2 G2 (g := (mkF m 12 #[.val (.ref sb), .val (.int (7 : Int32)), .val (.ref sg)] [(.ref sb), (.int (7 : Int32)), (.ref vb), (.ref sg)])) rfl rfl (hb hby d12_12)
  refine Comes.st st3 ?_
  show Comes p e below _ (T3.setTop (mkF m 15 #[.val (.ref sb), .val (.int (7 : Int32)), .val (.ref sg)] [(.int (0 : Int32)), (.int (7 : Int32)), (.ref vb), (.ref sg)]))
  obtain ⟨cq4, kq4, q4a, q4b, q4c⟩ := isOf hZ e3 G4
  obtain ⟨_, _, ⟨T4, L4, k4, n4⟩, -, X4, ⟨Lc4, hQ4, l4, y4, z4⟩, st4⟩ := X3.virtualBack hx (y := (⟨"java/lang/String", "getBytes", "([BIB)V"⟩ : MethodName)) (z := (⟨"java/lang/String", "getBytes", "([BIB)V"⟩ : MethodName)) hown (mvT hZ (W hw 89)) (mvT hZ (W hw 90)) (notFace_of_selects (args := #[]) (mvT hZ (W hw 92))) (mvT hZ (W hw 92)) (mvT hZ (W hw 91)) (by decide) (backOf (W := 0) (gb7_8 l Z a0 hw [] sg vb sv kv vs cs kb wl h0 n0 (by omega)  G4 G5 G6 G7 G8 G9 (by first | assumption | rfl) G11 (by assumption) G13 G14 (by omega)) hZ (W hw 93) (W hw 12) (by decide) (by decide)) q4a q4c (g := (mkF m 15 #[.val (.ref sb), .val (.int (7 : Int32)), .val (.ref sg)] [(.int (0 : Int32)), (.int (7 : Int32)), (.ref vb), (.ref sg)])) rfl (by rw [hml]; rfl) (Steps.refl _) (argsL := [(.ref vb), (.int (7 : Int32)), (.int (0 : Int32))]) (rest := []) (lenOf pd_3 rfl) rfl (by show 2 * 0 + _ ≤ _; exact Nat.le_of_eq rfl) (hb hby d12_15) (fun _ _ => ⟨rfl, e3, (by decide : 0 + 0 ≤ _), (by decide : 0 + 0 ≤ _)⟩)
  dsimp only [Pt.U, Pt.locs, Pt.cells, Pt.slots] at X4 l4 y4 z4 st4 hQ4
  subst l4 y4 z4
  obtain ⟨r5, rfl, Nq4, Kq4, P4_0, P4_1⟩ := hQ4
  have N4 := Fr.app N1 Nq4
  have z4k : h0.size ≤ T4.heap.size := Kq4.1
  have K4 : Keep h0 T4.heap [vb] := K0.trans Kq4 (allS (Or.inl (List.mem_of_getElem? (i := 0) rfl)) all0)
  refine Comes.go st4 ?_
  show Comes p e below _ (T4.setTop (mkF m 18 #[.val (.ref sb), .val (.int (7 : Int32)), .val (.ref sg)] []))
  exact Comes.ret0 X4 hx Bd.returns hlk (hb hby d12_18) rfl ⟨r5, rfl, N4, K4, P4_0, (by assumption)⟩ (by decide) (by decide)
def Q_aa7_8 (Z : State) (sb sg sv : Nat) (kv : ClassId) (vs : List Value) (cs : Int32) (vb : Nat) (kb : ClassId) (wl : List Value) (h0 : Heap) (n0 : Nat) (v_ : Option Value) (h : Heap) (L_ : List Loc) : Prop := ∃ (wm : List Value), (v_ = some (.ref sb)) ∧ (Fr n0 L_) ∧ (Keep h0 h [sb, vb]) ∧ (Exa Z h sb "java/lang/StringBuilder") ∧ (Fld Z h sb "java/lang/AbstractStringBuilder" "value" "[B" (.ref vb)) ∧ (Fld Z h sb "java/lang/AbstractStringBuilder" "coder" "B" (.int (0 : Int32))) ∧ (Fld Z h sb "java/lang/AbstractStringBuilder" "count" "I" (.int (15 : Int32))) ∧ (Arv Z h vb kb .byte (16 : Int32) wm (.int (0 : Int32))) ∧ (wm.length = 16) ∧ (Exa Z h vb "[B")
theorem aa7_8 (l : Launch) (Z : State) (a0 : Array Value) (hw : ∀ d ∈ tables_1, d.before a0 Z = true) (ws : List Jvm.Cond) (sb sg sv : Nat) (kv : ClassId) (vs : List Value) (cs : Int32) (vb : Nat) (kb : ClassId) (wl : List Value) (h0 : Heap) (n0 : Nat) (Z0 : n0 ≤ h0.size) (G0 : Exa Z h0 sb "java/lang/StringBuilder") (G1 : Fld Z h0 sb "java/lang/AbstractStringBuilder" "value" "[B" (.ref vb)) (G2 : Fld Z h0 sb "java/lang/AbstractStringBuilder" "coder" "B" (.int (0 : Int32))) (G3 : Fld Z h0 sb "java/lang/AbstractStringBuilder" "count" "I" (.int (7 : Int32))) (G4 : Exa Z h0 sg "java/lang/String") (G5 : Fld Z h0 sg "java/lang/String" "value" "[B" (.ref sv)) (G6 : Fld Z h0 sg "java/lang/String" "coder" "B" (.int (0 : Int32))) (G7 : Arv Z h0 sv kv .byte (8 : Int32) vs (.int (0 : Int32))) (G8 : Arv Z h0 vb kb .byte (16 : Int32) wl (.int (0 : Int32))) (G9 : Exa Z h0 vb "[B") (G10 : wl.length = 16) (G11 : Sta Z Z.heap "java/lang/String" "COMPACT_STRINGS" "Z" (.int cs)) (G12 : ¬ (cs = (0 : Int32))) (G13 : Old Z n0 h0) (G14 : sv ≠ vb) (G15 : n0 ≤ vb) (G16 : sb ≠ vb) (G17 : sg ≠ vb) (G18 : n0 ≤ sb) (G19 : sg ≠ sb) (G20 : sv ≠ sb) :
    MetFree l (⟨"java/lang/AbstractStringBuilder", "append", "(Ljava/lang/String;)Ljava/lang/AbstractStringBuilder;"⟩ : MethodName) (head1 (Jvm.Cond.code (⟨"java/lang/AbstractStringBuilder", "append", "(Ljava/lang/String;)Ljava/lang/AbstractStringBuilder;"⟩ : MethodName) jdk_68_method_22_code 3 (some (.object "java/lang/AbstractStringBuilder")) :: ws) (Rm 3 0 0 56)) (fun a_ U_ => a_ = #[(.ref sb), (.ref sg)] ∧ Z.Warmed39 U_.vm ∧ U_.heap = h0) (fun _ _ _ _ _ => True) (fun _ U_ o_ V_ => ∃ v_ L_, o_ = .returned v_ ∧ Q_aa7_8 Z sb sg sv kv vs cs vb kb wl h0 n0 v_ V_.heap L_ ∧ FrameEnd U_ o_ V_ L_ (Rm 3 0 0 56).cells (Rm 3 0 0 56).slots) := by
  refine MetFree.of_bodySF (plainFor_of_name pn_8) hisR ?_
  intro p e s m args below meth c s₁ Bd hml0 hP hK
  obtain ⟨rfl, hZ, hh⟩ := hP
  have hx := Bd.exec
  have hby := Bd.bytes
  have hml : c.maxLocals = 3 := hml0
  have hown : s.vm.findClass "java/lang/AbstractStringBuilder" = some m.cls := findClass_of_methodNamed Bd.named
  have hnm := (name_of_methodNamed Bd.named Bd.method).1
  have hlk : meth.locks = false := Bd.notSynchronized
  have X0 : Stand p l e (Rm 3 0 0 56) s m #[(.ref sb), (.ref sg)] below meth c s₁ [] 0 0 := Stand.of_body Bd
  have e0 : s₁.heap = h0 := by rw [← hh, Bd.state]; rfl
  have N0 := Fr.nil n0
  have K0 := Keep.refl h0 [sb, vb]
  refine Comes.out (Q := Q_aa7_8 Z sb sg sv kv vs cs vb kb wl h0 n0) (kc := (Rm 3 0 0 56).cells) (ks := (Rm 3 0 0 56).slots) ?_
  refine Comes.cast (ef_aa7_8 m sb sg) ?_
  have lt_sb : sb < h0.size := G0.lt
  have lt_sg : sg < h0.size := G4.lt
  have lt_sv : sv < h0.size := G7.lt
  have lt_vb : vb < h0.size := G8.lt
  show Comes p e below _ (s₁.setTop (mkF m 0 #[.val (.ref sb), .val (.ref sg), .unset] []))
  refine Comes.st (fun t k => XS.aloadN X0.here hx rfl (hb hby d8_0) rfl rfl (XS.ifnonnullYes X0.here hx rfl (pc0 := 1) (pc' := 9) rfl (hb hby d8_1) rfl (by decide) (by decide) (XS.aloadN X0.here hx rfl (hb hby d8_9) rfl rfl k))) ?_
  show Comes p e below _ (s₁.setTop (mkF m 10 #[.val (.ref sb), .val (.ref sg), .unset] [(.ref sg)]))
  obtain ⟨cq1, kq1, q1a, q1b, q1c⟩ := isOf hZ e0 G4
  obtain ⟨_, _, ⟨T1, L1, k1, n1⟩, -, X1, ⟨Lc1, hQ1, l1, y1, z1⟩, st1⟩ := X0.virtualBack hx (y := (⟨"java/lang/String", "length", "()I"⟩ : MethodName)) (z := (⟨"java/lang/String", "length", "()I"⟩ : MethodName)) hown (mvT hZ (W hw 58)) (mvT hZ (W hw 59)) (notFace_of_selects (args := #[]) (mvT hZ (W hw 61))) (mvT hZ (W hw 61)) (mvT hZ (W hw 60)) (by decide) (backOf (W := 0) (len8 l Z a0 hw [] sg sv kv vs cs h0 n0 (by omega)  G4 G5 G6 G7 G11 (by assumption) G13) hZ (W hw 62) (W hw 12) (by decide) (by decide)) q1a q1c (g := (mkF m 10 #[.val (.ref sb), .val (.ref sg), .unset] [(.ref sg)])) rfl (by rw [hml]; rfl) (Steps.refl _) (argsL := []) (rest := []) (lenOf pd_4 rfl) rfl (by show 2 * 0 + _ ≤ _; exact Nat.le_of_eq rfl) (hb hby d8_10) (fun _ _ => ⟨rfl, e0, (by decide : 0 + 0 ≤ _), (by decide : 0 + 0 ≤ _)⟩)
  dsimp only [Pt.U, Pt.locs, Pt.cells, Pt.slots] at X1 l1 y1 z1 st1 hQ1
  subst l1 y1 z1
  obtain ⟨rfl, Nq1, hs1⟩ := hQ1
  have N1 := Fr.app N0 Nq1
  refine Comes.go st1 ?_
  show Comes p e below _ (T1.setTop (mkF m 13 #[.val (.ref sb), .val (.ref sg), .unset] [(.int (8 : Int32))]))
  refine Comes.st (fun t k => XS.istoreN X1.here hx rfl (hb hby d8_13) rfl (l' := #[.val (.ref sb), .val (.ref sg), .val (.int (8 : Int32))]) rfl (XS.aloadN X1.here hx rfl (hb hby d8_14) rfl rfl (XS.aloadN X1.here hx rfl (hb hby d8_15) rfl rfl k))) ?_
  show Comes p e below _ (T1.setTop (mkF m 16 #[.val (.ref sb), .val (.ref sg), .val (.int (8 : Int32))] [(.ref sb), (.ref sb)]))
  obtain ⟨T2, X2, e2, st2⟩ := getF X1 hx hZ hown (host := "") (Or.inl (W hw 71)) Via.refl hs1 G3 (g := (mkF m 16 #[.val (.ref sb), .val (.ref sg), .val (.int (8 : Int32))] [(.ref sb), (.ref sb)])) rfl rfl (hb hby d8_16)
  refine Comes.st st2 ?_
  show Comes p e below _ (T2.setTop (mkF m 19 #[.val (.ref sb), .val (.ref sg), .val (.int (8 : Int32))] [(.int (7 : Int32)), (.ref sb)]))
  refine Comes.st (fun t k => XS.iloadN X2.here hx rfl (hb hby d8_19) rfl (XS.iadd X2.here hx rfl (hb hby d8_20) rfl k)) ?_
  show Comes p e below _ (T2.setTop (mkF m 21 #[.val (.ref sb), .val (.ref sg), .val (.int (8 : Int32))] [(.int ((7 : Int32) + (8 : Int32))), (.ref sb)]))
  rw [show ((7 : Int32) + (8 : Int32)) = (15 : Int32) from by decide]
  show Comes p e below _ (T2.setTop (mkF m 21 #[.val (.ref sb), .val (.ref sg), .val (.int (8 : Int32))] [(.int (15 : Int32)), (.ref sb)]))
  obtain ⟨cq3, q3, q3'⟩ := G0.cell
  obtain ⟨_, _, ⟨T3, L3, k3, n3⟩, -, X3, ⟨Lc3, hQ3, l3, y3, z3⟩, st3⟩ := X2.privateBack hx (y := (⟨"java/lang/AbstractStringBuilder", "ensureCapacityInternal", "(I)V"⟩ : MethodName)) hown (mvT hZ (W hw 73)) (mvT hZ (W hw 74)) (mvT hZ (own_selq (y := (⟨"java/lang/AbstractStringBuilder", "ensureCapacityInternal", "(I)V"⟩ : MethodName)) (W hw 76) (W hw 75) (W hw 74) (by decide))) (Cond.privateMethod_at (mvP hZ (W hw 75) (args := #[]))) (mvT hZ (W hw 77)) (by decide) (backOf (W := 0) (ens15 l Z a0 hw [] sb vb kb wl ((7 : Int32)) h0 n0 (by omega)  G0 G1 G2 G3 G8) hZ (W hw 77) (W hw 40) (by decide) (by decide)) (g := (mkF m 21 #[.val (.ref sb), .val (.ref sg), .val (.int (8 : Int32))] [(.int (15 : Int32)), (.ref sb)])) rfl (by rw [hml]; rfl) (Steps.refl _) (a := sb) (by rw [e2]; exact q3) q3' (argsL := [(.int (15 : Int32))]) (rest := []) (lenOf pd_0 rfl) rfl (by show 2 * 0 + _ ≤ _; exact Nat.le_of_eq rfl) (hb hby d8_21) (fun _ _ => ⟨rfl, e2, (by decide : 0 + 0 ≤ _), (by decide : 0 + 0 ≤ _)⟩)
  dsimp only [Pt.U, Pt.locs, Pt.cells, Pt.slots] at X3 l3 y3 z3 st3 hQ3
  subst l3 y3 z3
  obtain ⟨rfl, Nq3, hs3⟩ := hQ3
  have N3 := Fr.app N1 Nq3
  refine Comes.go st3 ?_
  show Comes p e below _ (T3.setTop (mkF m 24 #[.val (.ref sb), .val (.ref sg), .val (.int (8 : Int32))] []))
  refine Comes.st (fun t k => XS.aloadN X3.here hx rfl (hb hby d8_24) rfl rfl (XS.aloadN X3.here hx rfl (hb hby d8_25) rfl rfl k)) ?_
  show Comes p e below _ (T3.setTop (mkF m 26 #[.val (.ref sb), .val (.ref sg), .val (.int (8 : Int32))] [(.ref sb), (.ref sb)]))
  obtain ⟨T4, X4, e4, st4⟩ := getF X3 hx hZ hown (host := "") (Or.inl (W hw 71)) Via.refl hs3 G3 (g := (mkF m 26 #[.val (.ref sb), .val (.ref sg), .val (.int (8 : Int32))] [(.ref sb), (.ref sb)])) rfl rfl (hb hby d8_26)
  refine Comes.st st4 ?_
  show Comes p e below _ (T4.setTop (mkF m 29 #[.val (.ref sb), .val (.ref sg), .val (.int (8 : Int32))] [(.int (7 : Int32)), (.ref sb)]))
  refine Comes.st (fun t k => XS.aloadN X4.here hx rfl (hb hby d8_29) rfl rfl k) ?_
  show Comes p e below _ (T4.setTop (mkF m 30 #[.val (.ref sb), .val (.ref sg), .val (.int (8 : Int32))] [(.ref sg), (.int (7 : Int32)), (.ref sb)]))
  obtain ⟨cq5, q5, q5'⟩ := G0.cell
  obtain ⟨_, _, ⟨T5, L5, k5, n5⟩, -, X5, ⟨Lc5, hQ5, l5, y5, z5⟩, st5⟩ := X4.privateBack hx (y := (⟨"java/lang/AbstractStringBuilder", "putStringAt", "(ILjava/lang/String;)V"⟩ : MethodName)) hown (mvT hZ (W hw 78)) (mvT hZ (W hw 79)) (mvT hZ (own_selq (y := (⟨"java/lang/AbstractStringBuilder", "putStringAt", "(ILjava/lang/String;)V"⟩ : MethodName)) (W hw 81) (W hw 80) (W hw 79) (by decide))) (Cond.privateMethod_at (mvP hZ (W hw 80) (args := #[]))) (mvT hZ (W hw 82)) (by decide) (backOf (W := 0) (ps7_8 l Z a0 hw [] sb sg sv kv vs cs vb kb wl h0 n0 (by omega)  G0 G1 G2 G3 G4 G5 G6 G7 G8 G9 (by first | assumption | rfl) G11 (by assumption) G13 G14 (by omega) G16 G17) hZ (W hw 82) (W hw 40) (by decide) (by decide)) (g := (mkF m 30 #[.val (.ref sb), .val (.ref sg), .val (.int (8 : Int32))] [(.ref sg), (.int (7 : Int32)), (.ref sb)])) rfl (by rw [hml]; rfl) (Steps.refl _) (a := sb) (by rw [e4]; exact q5) q5' (argsL := [(.int (7 : Int32)), (.ref sg)]) (rest := []) (lenOf pd_5 rfl) rfl (by show 2 * 0 + _ ≤ _; exact Nat.le_of_eq rfl) (hb hby d8_30) (fun _ _ => ⟨rfl, e4, (by decide : 0 + 0 ≤ _), (by decide : 0 + 0 ≤ _)⟩)
  dsimp only [Pt.U, Pt.locs, Pt.cells, Pt.slots] at X5 l5 y5 z5 st5 hQ5
  subst l5 y5 z5
  obtain ⟨r6, rfl, Nq5, Kq5, P5_0, P5_1⟩ := hQ5
  have N5 := Fr.app N3 Nq5
  have z5k : h0.size ≤ T5.heap.size := Kq5.1
  have K5 : Keep h0 T5.heap [sb, vb] := K0.trans Kq5 (allS (Or.inl (List.mem_of_getElem? (i := 1) rfl)) all0)
  refine Comes.go st5 ?_
  show Comes p e below _ (T5.setTop (mkF m 33 #[.val (.ref sb), .val (.ref sg), .val (.int (8 : Int32))] []))
  refine Comes.st (fun t k => XS.aloadN X5.here hx rfl (hb hby d8_33) rfl rfl (XS.dup X5.here hx rfl (hb hby d8_34) rfl rfl k)) ?_
  show Comes p e below _ (T5.setTop (mkF m 35 #[.val (.ref sb), .val (.ref sg), .val (.int (8 : Int32))] [(.ref sb), (.ref sb)]))
  have F7 : Fld Z T5.heap sb "java/lang/AbstractStringBuilder" "count" "I" (.int (7 : Int32)) := (G3.keep Kq5 (ninS G16 nin0))
  obtain ⟨T8, X8, e8, st8⟩ := getF X5 hx hZ hown (host := "") (Or.inl (W hw 71)) Via.refl rfl F7 (g := (mkF m 35 #[.val (.ref sb), .val (.ref sg), .val (.int (8 : Int32))] [(.ref sb), (.ref sb)])) rfl rfl (hb hby d8_35)
  refine Comes.st st8 ?_
  show Comes p e below _ (T8.setTop (mkF m 38 #[.val (.ref sb), .val (.ref sg), .val (.int (8 : Int32))] [(.int (7 : Int32)), (.ref sb)]))
  refine Comes.st (fun t k => XS.iloadN X8.here hx rfl (hb hby d8_38) rfl (XS.iadd X8.here hx rfl (hb hby d8_39) rfl k)) ?_
  show Comes p e below _ (T8.setTop (mkF m 40 #[.val (.ref sb), .val (.ref sg), .val (.int (8 : Int32))] [(.int ((7 : Int32) + (8 : Int32))), (.ref sb)]))
  rw [show ((7 : Int32) + (8 : Int32)) = (15 : Int32) from by decide]
  show Comes p e below _ (T8.setTop (mkF m 40 #[.val (.ref sb), .val (.ref sg), .val (.int (8 : Int32))] [(.int (15 : Int32)), (.ref sb)]))
  have F9 : Exa Z T5.heap sb "java/lang/StringBuilder" := (G0.keep Kq5)
  obtain ⟨T10, h10, X10, e10, W10, st10⟩ := putF X8 hx hZ hown (host := "") (Or.inl (W hw 71)) Via.refl e8 F7 F9 (Or.inl (W hw 72)) (W hw 31) (ty := .int) (by decide) rfl rfl (g := (mkF m 40 #[.val (.ref sb), .val (.ref sg), .val (.int (8 : Int32))] [(.int (15 : Int32)), (.ref sb)])) rfl rfl (hb hby d8_40)
  have Fw10 := F7.same W10
  have z10 : h10.size = T5.heap.size := W10.size
  have gn11 : n0 ≤ sb := by omega
  have N10 := Fr.snoc X10 N5 gn11
  have K10 : Keep h0 h10 [sb, vb] := K5.wr W10 (Or.inl (List.mem_of_getElem? (i := 0) rfl))
  refine Comes.st st10 ?_
  show Comes p e below _ (T10.setTop (mkF m 43 #[.val (.ref sb), .val (.ref sg), .val (.int (8 : Int32))] []))
  refine Comes.st (fun t k => XS.aloadN X10.here hx rfl (hb hby d8_43) rfl rfl k) ?_
  show Comes p e below _ (T10.setTop (mkF m 44 #[.val (.ref sb), .val (.ref sg), .val (.int (8 : Int32))] [(.ref sb)]))
  have F12 : Exa Z h10 sb "java/lang/StringBuilder" := (F9.wr W10)
  have F13 : Fld Z h10 sb "java/lang/AbstractStringBuilder" "value" "[B" (.ref vb) := ((G1.keep Kq5 (ninS G16 nin0)).other W10 (Or.inr (slot_ne (Or.inl (W hw 45)) (Or.inl (W hw 72)) (by decide) (t := (.array .byte)) (t' := .int) (by decide) (by decide))))
  have F14 : Fld Z h10 sb "java/lang/AbstractStringBuilder" "coder" "B" (.int (0 : Int32)) := ((G2.keep Kq5 (ninS G16 nin0)).other W10 (Or.inr (slot_ne (Or.inl (W hw 47)) (Or.inl (W hw 72)) (by decide) (t := .byte) (t' := .int) (by decide) (by decide))))
  have F15 : Arv Z h10 vb kb .byte (16 : Int32) r6 (.int (0 : Int32)) := (P5_0.other W10 (Ne.symm G16))
  have F16 : Exa Z h10 vb "[B" := ((G9.keep Kq5).wr W10)
  exact Comes.retV X10 hx Bd.returns (narrow_ref rfl) (Or.inr (Or.inr (Or.inr (Or.inr ⟨rfl, rfl, rfl⟩)))) hlk (hb hby d8_44) e10 ⟨r6, rfl, N10, K10, F12, F13, F14, Fw10, F15, (by assumption), F16⟩ (by decide) (by decide)
def Q_ap7_8 (Z : State) (sb sg sv : Nat) (kv : ClassId) (vs : List Value) (cs : Int32) (vb : Nat) (kb : ClassId) (wl : List Value) (h0 : Heap) (n0 : Nat) (v_ : Option Value) (h : Heap) (L_ : List Loc) : Prop := ∃ (wm : List Value), (v_ = some (.ref sb)) ∧ (Fr n0 L_) ∧ (Keep h0 h [sb, vb]) ∧ (Exa Z h sb "java/lang/StringBuilder") ∧ (Fld Z h sb "java/lang/AbstractStringBuilder" "value" "[B" (.ref vb)) ∧ (Fld Z h sb "java/lang/AbstractStringBuilder" "coder" "B" (.int (0 : Int32))) ∧ (Fld Z h sb "java/lang/AbstractStringBuilder" "count" "I" (.int (15 : Int32))) ∧ (Arv Z h vb kb .byte (16 : Int32) wm (.int (0 : Int32))) ∧ (wm.length = 16) ∧ (Exa Z h vb "[B")
theorem ap7_8 (l : Launch) (Z : State) (a0 : Array Value) (hw : ∀ d ∈ tables_1, d.before a0 Z = true) (ws : List Jvm.Cond) (sb sg sv : Nat) (kv : ClassId) (vs : List Value) (cs : Int32) (vb : Nat) (kb : ClassId) (wl : List Value) (h0 : Heap) (n0 : Nat) (Z0 : n0 ≤ h0.size) (G0 : Exa Z h0 sb "java/lang/StringBuilder") (G1 : Fld Z h0 sb "java/lang/AbstractStringBuilder" "value" "[B" (.ref vb)) (G2 : Fld Z h0 sb "java/lang/AbstractStringBuilder" "coder" "B" (.int (0 : Int32))) (G3 : Fld Z h0 sb "java/lang/AbstractStringBuilder" "count" "I" (.int (7 : Int32))) (G4 : Exa Z h0 sg "java/lang/String") (G5 : Fld Z h0 sg "java/lang/String" "value" "[B" (.ref sv)) (G6 : Fld Z h0 sg "java/lang/String" "coder" "B" (.int (0 : Int32))) (G7 : Arv Z h0 sv kv .byte (8 : Int32) vs (.int (0 : Int32))) (G8 : Arv Z h0 vb kb .byte (16 : Int32) wl (.int (0 : Int32))) (G9 : Exa Z h0 vb "[B") (G10 : wl.length = 16) (G11 : Sta Z Z.heap "java/lang/String" "COMPACT_STRINGS" "Z" (.int cs)) (G12 : ¬ (cs = (0 : Int32))) (G13 : Old Z n0 h0) (G14 : sv ≠ vb) (G15 : n0 ≤ vb) (G16 : sb ≠ vb) (G17 : sg ≠ vb) (G18 : n0 ≤ sb) (G19 : sg ≠ sb) (G20 : sv ≠ sb) :
    MetFree l (⟨"java/lang/StringBuilder", "append", "(Ljava/lang/String;)Ljava/lang/StringBuilder;"⟩ : MethodName) (head1 (Jvm.Cond.code (⟨"java/lang/StringBuilder", "append", "(Ljava/lang/String;)Ljava/lang/StringBuilder;"⟩ : MethodName) jdk_67_method_7_code 2 (some (.object "java/lang/StringBuilder")) :: ws) (Rm 4 0 0 70)) (fun a_ U_ => a_ = #[(.ref sb), (.ref sg)] ∧ Z.Warmed39 U_.vm ∧ U_.heap = h0) (fun _ _ _ _ _ => True) (fun _ U_ o_ V_ => ∃ v_ L_, o_ = .returned v_ ∧ Q_ap7_8 Z sb sg sv kv vs cs vb kb wl h0 n0 v_ V_.heap L_ ∧ FrameEnd U_ o_ V_ L_ (Rm 4 0 0 70).cells (Rm 4 0 0 70).slots) := by
  refine MetFree.of_bodySF (plainFor_of_name pn_7) hisR ?_
  intro p e s m args below meth c s₁ Bd hml0 hP hK
  obtain ⟨rfl, hZ, hh⟩ := hP
  have hx := Bd.exec
  have hby := Bd.bytes
  have hml : c.maxLocals = 2 := hml0
  have hown : s.vm.findClass "java/lang/StringBuilder" = some m.cls := findClass_of_methodNamed Bd.named
  have hnm := (name_of_methodNamed Bd.named Bd.method).1
  have hlk : meth.locks = false := Bd.notSynchronized
  have X0 : Stand p l e (Rm 4 0 0 70) s m #[(.ref sb), (.ref sg)] below meth c s₁ [] 0 0 := Stand.of_body Bd
  have e0 : s₁.heap = h0 := by rw [← hh, Bd.state]; rfl
  have N0 := Fr.nil n0
  have K0 := Keep.refl h0 [sb, vb]
  refine Comes.out (Q := Q_ap7_8 Z sb sg sv kv vs cs vb kb wl h0 n0) (kc := (Rm 4 0 0 70).cells) (ks := (Rm 4 0 0 70).slots) ?_
  refine Comes.cast (ef_ap7_8 m sb sg) ?_
  have lt_sb : sb < h0.size := G0.lt
  have lt_sg : sg < h0.size := G4.lt
  have lt_sv : sv < h0.size := G7.lt
  have lt_vb : vb < h0.size := G8.lt
  show Comes p e below _ (s₁.setTop (mkF m 0 #[.val (.ref sb), .val (.ref sg)] []))
  refine Comes.st (fun t k => XS.aloadN X0.here hx rfl (hb hby d7_0) rfl rfl (XS.aloadN X0.here hx rfl (hb hby d7_1) rfl rfl k)) ?_
  show Comes p e below _ (s₁.setTop (mkF m 2 #[.val (.ref sb), .val (.ref sg)] [(.ref sg), (.ref sb)]))
  obtain ⟨_, _, ⟨T1, L1, k1, n1⟩, -, X1, ⟨Lc1, hQ1, l1, y1, z1⟩, st1⟩ := superBack X0 hx hZ (y := (⟨"java/lang/AbstractStringBuilder", "append", "(Ljava/lang/String;)Ljava/lang/AbstractStringBuilder;"⟩ : MethodName)) hown (W hw 53) (own_same (y := (⟨"java/lang/AbstractStringBuilder", "append", "(Ljava/lang/String;)Ljava/lang/AbstractStringBuilder;"⟩ : MethodName)) (z := (⟨"java/lang/AbstractStringBuilder", "ensureCapacityInternal", "(I)V"⟩ : MethodName)) (W hw 76) rfl (W hw 54) (by decide)) (W hw 54) (W hw 55) (by decide) (backOf (W := 0) (aa7_8 l Z a0 hw [] sb sg sv kv vs cs vb kb wl h0 n0 (by omega)  G0 G1 G2 G3 G4 G5 G6 G7 G8 G9 (by first | assumption | rfl) G11 (by assumption) G13 G14 (by omega) G16 G17 (by omega) G19 G20) hZ (W hw 57) (W hw 40) (by decide) (by decide)) e0 (Ins.self G0) (g := (mkF m 2 #[.val (.ref sb), .val (.ref sg)] [(.ref sg), (.ref sb)])) rfl (by rw [hml]; rfl) (W hw 57) (argsL := [(.ref sg)]) (rest := []) (lenOf pd_6 rfl) rfl (by show 2 * 0 + _ ≤ _; exact Nat.le_of_eq rfl) (hb hby d7_2) (fun _ _ => ⟨rfl, e0, (by decide : 0 + 0 ≤ _), (by decide : 0 + 0 ≤ _)⟩)
  dsimp only [Pt.U, Pt.locs, Pt.cells, Pt.slots] at X1 l1 y1 z1 st1 hQ1
  subst l1 y1 z1
  obtain ⟨r2, rfl, Nq1, Kq1, P1_0, P1_1, P1_2, P1_3, P1_4, P1_5, P1_6⟩ := hQ1
  have N1 := Fr.app N0 Nq1
  have z1k : h0.size ≤ T1.heap.size := Kq1.1
  have K1 : Keep h0 T1.heap [sb, vb] := K0.trans Kq1 (allS (Or.inl (List.mem_of_getElem? (i := 0) rfl)) (allS (Or.inl (List.mem_of_getElem? (i := 1) rfl)) all0))
  refine Comes.go st1 ?_
  show Comes p e below _ (T1.setTop (mkF m 5 #[.val (.ref sb), .val (.ref sg)] [(.ref sb)]))
  refine Comes.st (fun t k => XS.pop X1.here hx rfl (hb hby d7_5) rfl rfl (XS.aloadN X1.here hx rfl (hb hby d7_6) rfl rfl k)) ?_
  show Comes p e below _ (T1.setTop (mkF m 7 #[.val (.ref sb), .val (.ref sg)] [(.ref sb)]))
  exact Comes.retV X1 hx Bd.returns (narrow_ref rfl) (Or.inr (Or.inr (Or.inr (Or.inr ⟨rfl, rfl, rfl⟩)))) hlk (hb hby d7_7) rfl ⟨r2, rfl, N1, K1, P1_0, P1_1, P1_2, P1_3, P1_4, (by assumption), P1_6⟩ (by decide) (by decide)
def Q_gb8_8 (Z : State) (sg vb sv : Nat) (kv : ClassId) (vs : List Value) (cs : Int32) (kb : ClassId) (wl : List Value) (h0 : Heap) (n0 : Nat) (v_ : Option Value) (h : Heap) (L_ : List Loc) : Prop := ∃ (wm : List Value), (v_ = none) ∧ (Fr n0 L_) ∧ (Keep h0 h [vb]) ∧ (Arv Z h vb kb .byte (16 : Int32) wm (.int (0 : Int32))) ∧ (wm.length = 16)
theorem gb8_8 (l : Launch) (Z : State) (a0 : Array Value) (hw : ∀ d ∈ tables_1, d.before a0 Z = true) (ws : List Jvm.Cond) (sg vb sv : Nat) (kv : ClassId) (vs : List Value) (cs : Int32) (kb : ClassId) (wl : List Value) (h0 : Heap) (n0 : Nat) (Z0 : n0 ≤ h0.size) (G0 : Exa Z h0 sg "java/lang/String") (G1 : Fld Z h0 sg "java/lang/String" "value" "[B" (.ref sv)) (G2 : Fld Z h0 sg "java/lang/String" "coder" "B" (.int (0 : Int32))) (G3 : Arv Z h0 sv kv .byte (8 : Int32) vs (.int (0 : Int32))) (G4 : Arv Z h0 vb kb .byte (16 : Int32) wl (.int (0 : Int32))) (G5 : Exa Z h0 vb "[B") (G6 : wl.length = 16) (G7 : Sta Z Z.heap "java/lang/String" "COMPACT_STRINGS" "Z" (.int cs)) (G8 : ¬ (cs = (0 : Int32))) (G9 : Old Z n0 h0) (G10 : sv ≠ vb) (G11 : n0 ≤ vb) :
    MetFree l (⟨"java/lang/String", "getBytes", "([BIB)V"⟩ : MethodName) (head1 (Jvm.Cond.code (⟨"java/lang/String", "getBytes", "([BIB)V"⟩ : MethodName) jdk_42_method_147_code 4 none :: ws) (Rm 1 0 0 27)) (fun a_ U_ => a_ = #[(.ref sg), (.ref vb), (.int (8 : Int32)), (.int (0 : Int32))] ∧ Z.Warmed39 U_.vm ∧ U_.heap = h0) (fun _ _ _ _ _ => True) (fun _ U_ o_ V_ => ∃ v_ L_, o_ = .returned v_ ∧ Q_gb8_8 Z sg vb sv kv vs cs kb wl h0 n0 v_ V_.heap L_ ∧ FrameEnd U_ o_ V_ L_ (Rm 1 0 0 27).cells (Rm 1 0 0 27).slots) := by
  refine MetFree.of_bodySF (plainFor_of_name pn_14) hisR ?_
  intro p e s m args below meth c s₁ Bd hml0 hP hK
  obtain ⟨rfl, hZ, hh⟩ := hP
  have hx := Bd.exec
  have hby := Bd.bytes
  have hml : c.maxLocals = 4 := hml0
  have hown : s.vm.findClass "java/lang/String" = some m.cls := findClass_of_methodNamed Bd.named
  have hnm := (name_of_methodNamed Bd.named Bd.method).1
  have hlk : meth.locks = false := Bd.notSynchronized
  have X0 : Stand p l e (Rm 1 0 0 27) s m #[(.ref sg), (.ref vb), (.int (8 : Int32)), (.int (0 : Int32))] below meth c s₁ [] 0 0 := Stand.of_body Bd
  have e0 : s₁.heap = h0 := by rw [← hh, Bd.state]; rfl
  have N0 := Fr.nil n0
  have K0 := Keep.refl h0 [vb]
  refine Comes.out (Q := Q_gb8_8 Z sg vb sv kv vs cs kb wl h0 n0) (kc := (Rm 1 0 0 27).cells) (ks := (Rm 1 0 0 27).slots) ?_
  refine Comes.cast (ef_gb8_8 m sg vb) ?_
  have lt_sg : sg < h0.size := G0.lt
  have lt_sv : sv < h0.size := G3.lt
  have lt_vb : vb < h0.size := G4.lt
  show Comes p e below _ (s₁.setTop (mkF m 0 #[.val (.ref sg), .val (.ref vb), .val (.int (8 : Int32)), .val (.int (0 : Int32))] []))
  refine Comes.st (fun t k => XS.aloadN X0.here hx rfl (hb hby d14_0) rfl rfl k) ?_
  show Comes p e below _ (s₁.setTop (mkF m 1 #[.val (.ref sg), .val (.ref vb), .val (.int (8 : Int32)), .val (.int (0 : Int32))] [(.ref sg)]))
  obtain ⟨cq1, kq1, q1a, q1b, q1c⟩ := isOf hZ e0 G0
  obtain ⟨_, _, ⟨T1, L1, k1, n1⟩, -, X1, ⟨Lc1, hQ1, l1, y1, z1⟩, st1⟩ := X0.virtualBack hx (y := (⟨"java/lang/String", "coder", "()B"⟩ : MethodName)) (z := (⟨"java/lang/String", "coder", "()B"⟩ : MethodName)) hown (mvT hZ (W hw 64)) (mvT hZ (W hw 65)) (notFace_of_selects (args := #[]) (mvT hZ (W hw 67))) (mvT hZ (W hw 67)) (mvT hZ (W hw 66)) (by decide) (backOf (W := 0) (rm10 l Z a0 hw [] sg cs h0 n0 (by omega)  G2 G7 (by assumption) G9) hZ (W hw 68) (W hw 12) (by decide) (by decide)) q1a q1c (g := (mkF m 1 #[.val (.ref sg), .val (.ref vb), .val (.int (8 : Int32)), .val (.int (0 : Int32))] [(.ref sg)])) rfl (by rw [hml]; rfl) (Steps.refl _) (argsL := []) (rest := []) (lenOf pd_1 rfl) rfl (by show 2 * 0 + _ ≤ _; exact Nat.le_of_eq rfl) (hb hby d14_1) (fun _ _ => ⟨rfl, e0, (by decide : 0 + 0 ≤ _), (by decide : 0 + 0 ≤ _)⟩)
  dsimp only [Pt.U, Pt.locs, Pt.cells, Pt.slots] at X1 l1 y1 z1 st1 hQ1
  subst l1 y1 z1
  obtain ⟨rfl, Nq1, hs1⟩ := hQ1
  have N1 := Fr.app N0 Nq1
  refine Comes.go st1 ?_
  show Comes p e below _ (T1.setTop (mkF m 4 #[.val (.ref sg), .val (.ref vb), .val (.int (8 : Int32)), .val (.int (0 : Int32))] [(.int (0 : Int32))]))
  refine Comes.st (fun t k => XS.iloadN X1.here hx rfl (hb hby d14_4) rfl k) ?_
  show Comes p e below _ (T1.setTop (mkF m 5 #[.val (.ref sg), .val (.ref vb), .val (.int (8 : Int32)), .val (.int (0 : Int32))] [(.int (0 : Int32)), (.int (0 : Int32))]))
  have hc5_2 : (0 : Int32) = (0 : Int32) := by decide
  refine Comes.st (fun t k => XS.icmpNo X1.here hx rfl (hb hby d14_5) rfl (teq hc5_2).2 (XS.aloadN X1.here hx rfl (hb hby d14_8) rfl rfl k)) ?_
  show Comes p e below _ (T1.setTop (mkF m 9 #[.val (.ref sg), .val (.ref vb), .val (.int (8 : Int32)), .val (.int (0 : Int32))] [(.ref sg)]))
  obtain ⟨T3, X3, e3, st3⟩ := getF X1 hx hZ hown (host := "") (Or.inl (W hw 63)) Via.refl hs1 G1 (g := (mkF m 9 #[.val (.ref sg), .val (.ref vb), .val (.int (8 : Int32)), .val (.int (0 : Int32))] [(.ref sg)])) rfl rfl (hb hby d14_9)
  refine Comes.st st3 ?_
  show Comes p e below _ (T3.setTop (mkF m 12 #[.val (.ref sg), .val (.ref vb), .val (.int (8 : Int32)), .val (.int (0 : Int32))] [(.ref sv)]))
  refine Comes.st (fun t k => XS.iconst X3.here hx rfl (hb hby d14_12) (XS.aloadN X3.here hx rfl (hb hby d14_13) rfl rfl (XS.iloadN X3.here hx rfl (hb hby d14_14) rfl (XS.iloadN X3.here hx rfl (hb hby d14_15) rfl (XS.ishl X3.here hx rfl (hb hby d14_16) rfl k))))) ?_
  show Comes p e below _ (T3.setTop (mkF m 17 #[.val (.ref sg), .val (.ref vb), .val (.int (8 : Int32)), .val (.int (0 : Int32))] [(.int ((8 : Int32) <<< ((0 : Int32) &&& 31))), (.ref vb), (.int (0 : Int32)), (.ref sv)]))
  rw [show ((8 : Int32) <<< ((0 : Int32) &&& 31)) = (8 : Int32) from by decide]
  show Comes p e below _ (T3.setTop (mkF m 17 #[.val (.ref sg), .val (.ref vb), .val (.int (8 : Int32)), .val (.int (0 : Int32))] [(.int (8 : Int32)), (.ref vb), (.int (0 : Int32)), (.ref sv)]))
  refine Comes.st (fun t k => XS.aloadN X3.here hx rfl (hb hby d14_17) rfl rfl k) ?_
  show Comes p e below _ (T3.setTop (mkF m 18 #[.val (.ref sg), .val (.ref vb), .val (.int (8 : Int32)), .val (.int (0 : Int32))] [(.ref sg), (.int (8 : Int32)), (.ref vb), (.int (0 : Int32)), (.ref sv)]))
  obtain ⟨T4, X4, e4, st4⟩ := getF X3 hx hZ hown (host := "") (Or.inl (W hw 63)) Via.refl e3 G1 (g := (mkF m 18 #[.val (.ref sg), .val (.ref vb), .val (.int (8 : Int32)), .val (.int (0 : Int32))] [(.ref sg), (.int (8 : Int32)), (.ref vb), (.int (0 : Int32)), (.ref sv)])) rfl rfl (hb hby d14_18)
  refine Comes.st st4 ?_
  show Comes p e below _ (T4.setTop (mkF m 21 #[.val (.ref sg), .val (.ref vb), .val (.int (8 : Int32)), .val (.int (0 : Int32))] [(.ref sv), (.int (8 : Int32)), (.ref vb), (.int (0 : Int32)), (.ref sv)]))
  obtain ⟨cl5, Ar5, -, S5, Ng5, -, -⟩ := id G3
  refine Comes.st (fun t k => X4.arraylength hx (by rw [e4]; exact Ar5.1) (State.isArrayOf_alike hZ.alike Ar5.2.1) (g := (mkF m 21 #[.val (.ref sg), .val (.ref vb), .val (.int (8 : Int32)), .val (.int (0 : Int32))] [(.ref sv), (.int (8 : Int32)), (.ref vb), (.int (0 : Int32)), (.ref sv)])) rfl rfl (hb hby d14_21) _ k) ?_
  rw [len_of S5 Ng5]
  show Comes p e below _ (T4.setTop (mkF m 22 #[.val (.ref sg), .val (.ref vb), .val (.int (8 : Int32)), .val (.int (0 : Int32))] [(.int (8 : Int32)), (.int (8 : Int32)), (.ref vb), (.int (0 : Int32)), (.ref sv)]))
  obtain ⟨T6, h6, L6, X6, e6, N6, Kq6, V6, st6⟩ := cpA X4 hx hZ hown (W hw 94) (W hw 97) (W hw 95) (W hw 96) e4 G3 G4 (Or.inl ⟨rfl, rfl⟩) (by decide) (by decide) (by decide) (by decide) (by decide) rfl (by rw [G6]; decide) N1 (by omega) (g := (mkF m 22 #[.val (.ref sg), .val (.ref vb), .val (.int (8 : Int32)), .val (.int (0 : Int32))] [(.int (8 : Int32)), (.int (8 : Int32)), (.ref vb), (.int (0 : Int32)), (.ref sv)])) rfl (by rw [hml]; rfl) (rest := []) rfl (hb hby d14_22) (by decide) (W := 0) (by show 2 * 0 + _ ≤ _; exact Nat.le_of_eq rfl) (by decide)
  have z6 : h0.size ≤ h6.size := Kq6.1
  have K6 : Keep h0 h6 [vb] := K0.trans Kq6 (allS (Or.inl (List.mem_of_getElem? (i := 0) rfl)) all0)
  obtain ⟨w6, V6', hl6⟩ : ∃ w_ : List Value, Arv Z h6 vb kb .byte (16 : Int32) w_ (.int (0 : Int32)) ∧ w_.length = 16 := ⟨_, V6, by simp [G6]⟩
  refine Comes.st st6 ?_
  show Comes p e below _ (T6.setTop (mkF m 25 #[.val (.ref sg), .val (.ref vb), .val (.int (8 : Int32)), .val (.int (0 : Int32))] []))
  refine Comes.st (fun t k => XS.goto X6.here hx rfl (pc0 := 25) (pc' := 43) rfl (hb hby d14_25) (by decide) (by decide) k) ?_
  show Comes p e below _ (T6.setTop (mkF m 43 #[.val (.ref sg), .val (.ref vb), .val (.int (8 : Int32)), .val (.int (0 : Int32))] []))
  exact Comes.ret0 X6 hx Bd.returns hlk (hb hby d14_43) e6 ⟨w6, rfl, N6, K6, V6', (by assumption)⟩ (by decide) (by decide)
def Q_ps8_8 (Z : State) (sb sg sv : Nat) (kv : ClassId) (vs : List Value) (cs : Int32) (vb : Nat) (kb : ClassId) (wl : List Value) (h0 : Heap) (n0 : Nat) (v_ : Option Value) (h : Heap) (L_ : List Loc) : Prop := ∃ (wm : List Value), (v_ = none) ∧ (Fr n0 L_) ∧ (Keep h0 h [vb]) ∧ (Arv Z h vb kb .byte (16 : Int32) wm (.int (0 : Int32))) ∧ (wm.length = 16)
theorem ps8_8 (l : Launch) (Z : State) (a0 : Array Value) (hw : ∀ d ∈ tables_1, d.before a0 Z = true) (ws : List Jvm.Cond) (sb sg sv : Nat) (kv : ClassId) (vs : List Value) (cs : Int32) (vb : Nat) (kb : ClassId) (wl : List Value) (h0 : Heap) (n0 : Nat) (Z0 : n0 ≤ h0.size) (G0 : Exa Z h0 sb "java/lang/StringBuilder") (G1 : Fld Z h0 sb "java/lang/AbstractStringBuilder" "value" "[B" (.ref vb)) (G2 : Fld Z h0 sb "java/lang/AbstractStringBuilder" "coder" "B" (.int (0 : Int32))) (G3 : Fld Z h0 sb "java/lang/AbstractStringBuilder" "count" "I" (.int (8 : Int32))) (G4 : Exa Z h0 sg "java/lang/String") (G5 : Fld Z h0 sg "java/lang/String" "value" "[B" (.ref sv)) (G6 : Fld Z h0 sg "java/lang/String" "coder" "B" (.int (0 : Int32))) (G7 : Arv Z h0 sv kv .byte (8 : Int32) vs (.int (0 : Int32))) (G8 : Arv Z h0 vb kb .byte (16 : Int32) wl (.int (0 : Int32))) (G9 : Exa Z h0 vb "[B") (G10 : wl.length = 16) (G11 : Sta Z Z.heap "java/lang/String" "COMPACT_STRINGS" "Z" (.int cs)) (G12 : ¬ (cs = (0 : Int32))) (G13 : Old Z n0 h0) (G14 : sv ≠ vb) (G15 : n0 ≤ vb) (G16 : sb ≠ vb) (G17 : sg ≠ vb) :
    MetFree l (⟨"java/lang/AbstractStringBuilder", "putStringAt", "(ILjava/lang/String;)V"⟩ : MethodName) (head1 (Jvm.Cond.code (⟨"java/lang/AbstractStringBuilder", "putStringAt", "(ILjava/lang/String;)V"⟩ : MethodName) jdk_68_method_73_code 3 none :: ws) (Rm 2 0 0 42)) (fun a_ U_ => a_ = #[(.ref sb), (.int (8 : Int32)), (.ref sg)] ∧ Z.Warmed39 U_.vm ∧ U_.heap = h0) (fun _ _ _ _ _ => True) (fun _ U_ o_ V_ => ∃ v_ L_, o_ = .returned v_ ∧ Q_ps8_8 Z sb sg sv kv vs cs vb kb wl h0 n0 v_ V_.heap L_ ∧ FrameEnd U_ o_ V_ L_ (Rm 2 0 0 42).cells (Rm 2 0 0 42).slots) := by
  refine MetFree.of_bodySF (plainFor_of_name pn_12) hisR ?_
  intro p e s m args below meth c s₁ Bd hml0 hP hK
  obtain ⟨rfl, hZ, hh⟩ := hP
  have hx := Bd.exec
  have hby := Bd.bytes
  have hml : c.maxLocals = 3 := hml0
  have hown : s.vm.findClass "java/lang/AbstractStringBuilder" = some m.cls := findClass_of_methodNamed Bd.named
  have hnm := (name_of_methodNamed Bd.named Bd.method).1
  have hlk : meth.locks = false := Bd.notSynchronized
  have X0 : Stand p l e (Rm 2 0 0 42) s m #[(.ref sb), (.int (8 : Int32)), (.ref sg)] below meth c s₁ [] 0 0 := Stand.of_body Bd
  have e0 : s₁.heap = h0 := by rw [← hh, Bd.state]; rfl
  have N0 := Fr.nil n0
  have K0 := Keep.refl h0 [vb]
  refine Comes.out (Q := Q_ps8_8 Z sb sg sv kv vs cs vb kb wl h0 n0) (kc := (Rm 2 0 0 42).cells) (ks := (Rm 2 0 0 42).slots) ?_
  refine Comes.cast (ef_ps8_8 m sb sg) ?_
  have lt_sb : sb < h0.size := G0.lt
  have lt_sg : sg < h0.size := G4.lt
  have lt_sv : sv < h0.size := G7.lt
  have lt_vb : vb < h0.size := G8.lt
  show Comes p e below _ (s₁.setTop (mkF m 0 #[.val (.ref sb), .val (.int (8 : Int32)), .val (.ref sg)] []))
  refine Comes.st (fun t k => XS.aloadN X0.here hx rfl (hb hby d12_0) rfl rfl (XS.aloadN X0.here hx rfl (hb hby d12_1) rfl rfl k)) ?_
  show Comes p e below _ (s₁.setTop (mkF m 2 #[.val (.ref sb), .val (.int (8 : Int32)), .val (.ref sg)] [(.ref sg), (.ref sb)]))
  obtain ⟨cq1, q1, q1'⟩ := G0.cell
  obtain ⟨_, _, ⟨T1, L1, k1, n1⟩, -, X1, ⟨Lc1, hQ1, l1, y1, z1⟩, st1⟩ := X0.privateBack hx (y := (⟨"java/lang/AbstractStringBuilder", "inflateIfNeededFor", "(Ljava/lang/String;)V"⟩ : MethodName)) hown (mvT hZ (W hw 83)) (mvT hZ (W hw 84)) (mvT hZ (own_selq (y := (⟨"java/lang/AbstractStringBuilder", "inflateIfNeededFor", "(Ljava/lang/String;)V"⟩ : MethodName)) (W hw 86) (W hw 85) (W hw 84) (by decide))) (Cond.privateMethod_at (mvP hZ (W hw 85) (args := #[]))) (mvT hZ (W hw 87)) (by decide) (backOf (W := 0) (rm13 l Z a0 hw [] sb sg cs h0 n0 (by omega)  G0 G2 G4 G6 G11 (by assumption) G13) hZ (W hw 87) (W hw 40) (by decide) (by decide)) (g := (mkF m 2 #[.val (.ref sb), .val (.int (8 : Int32)), .val (.ref sg)] [(.ref sg), (.ref sb)])) rfl (by rw [hml]; rfl) (Steps.refl _) (a := sb) (by rw [e0]; exact q1) q1' (argsL := [(.ref sg)]) (rest := []) (lenOf pd_2 rfl) rfl (by show 2 * 0 + _ ≤ _; exact Nat.le_of_eq rfl) (hb hby d12_2) (fun _ _ => ⟨rfl, e0, (by decide : 0 + 0 ≤ _), (by decide : 0 + 0 ≤ _)⟩)
  dsimp only [Pt.U, Pt.locs, Pt.cells, Pt.slots] at X1 l1 y1 z1 st1 hQ1
  subst l1 y1 z1
  obtain ⟨rfl, Nq1, hs1⟩ := hQ1
  have N1 := Fr.app N0 Nq1
  refine Comes.go st1 ?_
  show Comes p e below _ (T1.setTop (mkF m 5 #[.val (.ref sb), .val (.int (8 : Int32)), .val (.ref sg)] []))
  refine Comes.st (fun t k => XS.aloadN X1.here hx rfl (hb hby d12_5) rfl rfl (XS.aloadN X1.here hx rfl (hb hby d12_6) rfl rfl k)) ?_
  show Comes p e below _ (T1.setTop (mkF m 7 #[.val (.ref sb), .val (.int (8 : Int32)), .val (.ref sg)] [(.ref sb), (.ref sg)]))
  obtain ⟨T2, X2, e2, st2⟩ := getF X1 hx hZ hown (host := "") (Or.inl (W hw 44)) Via.refl hs1 G1 (g := (mkF m 7 #[.val (.ref sb), .val (.int (8 : Int32)), .val (.ref sg)] [(.ref sb), (.ref sg)])) rfl rfl (hb hby d12_7)
  refine Comes.st st2 ?_
  show Comes p e below _ (T2.setTop (mkF m 10 #[.val (.ref sb), .val (.int (8 : Int32)), .val (.ref sg)] [(.ref vb), (.ref sg)]))
  refine Comes.st (fun t k => XS.iloadN X2.here hx rfl (hb hby d12_10) rfl (XS.aloadN X2.here hx rfl (hb hby d12_11) rfl rfl k)) ?_
  show Comes p e below _ (T2.setTop (mkF m 12 #[.val (.ref sb), .val (.int (8 : Int32)), .val (.ref sg)] [(.ref sb), (.int (8 : Int32)), (.ref vb), (.ref sg)]))
  obtain ⟨T3, X3, e3, st3⟩ := getF X2 hx hZ hown (host := "") (Or.inl (W hw 46)) Via.refl e2 G2 (g := (mkF m 12 #[.val (.ref sb), .val (.int (8 : Int32)), .val (.ref sg)] [(.ref sb), (.int (8 : Int32)), (.ref vb), (.ref sg)])) rfl rfl (hb hby d12_12)
  refine Comes.st st3 ?_
  show Comes p e below _ (T3.setTop (mkF m 15 #[.val (.ref sb), .val (.int (8 : Int32)), .val (.ref sg)] [(.int (0 : Int32)), (.int (8 : Int32)), (.ref vb), (.ref sg)]))
  obtain ⟨cq4, kq4, q4a, q4b, q4c⟩ := isOf hZ e3 G4
  obtain ⟨_, _, ⟨T4, L4, k4, n4⟩, -, X4, ⟨Lc4, hQ4, l4, y4, z4⟩, st4⟩ := X3.virtualBack hx (y := (⟨"java/lang/String", "getBytes", "([BIB)V"⟩ : MethodName)) (z := (⟨"java/lang/String", "getBytes", "([BIB)V"⟩ : MethodName)) hown (mvT hZ (W hw 89)) (mvT hZ (W hw 90)) (notFace_of_selects (args := #[]) (mvT hZ (W hw 92))) (mvT hZ (W hw 92)) (mvT hZ (W hw 91)) (by decide) (backOf (W := 0) (gb8_8 l Z a0 hw [] sg vb sv kv vs cs kb wl h0 n0 (by omega)  G4 G5 G6 G7 G8 G9 (by first | assumption | rfl) G11 (by assumption) G13 G14 (by omega)) hZ (W hw 93) (W hw 12) (by decide) (by decide)) q4a q4c (g := (mkF m 15 #[.val (.ref sb), .val (.int (8 : Int32)), .val (.ref sg)] [(.int (0 : Int32)), (.int (8 : Int32)), (.ref vb), (.ref sg)])) rfl (by rw [hml]; rfl) (Steps.refl _) (argsL := [(.ref vb), (.int (8 : Int32)), (.int (0 : Int32))]) (rest := []) (lenOf pd_3 rfl) rfl (by show 2 * 0 + _ ≤ _; exact Nat.le_of_eq rfl) (hb hby d12_15) (fun _ _ => ⟨rfl, e3, (by decide : 0 + 0 ≤ _), (by decide : 0 + 0 ≤ _)⟩)
  dsimp only [Pt.U, Pt.locs, Pt.cells, Pt.slots] at X4 l4 y4 z4 st4 hQ4
  subst l4 y4 z4
  obtain ⟨r5, rfl, Nq4, Kq4, P4_0, P4_1⟩ := hQ4
  have N4 := Fr.app N1 Nq4
  have z4k : h0.size ≤ T4.heap.size := Kq4.1
  have K4 : Keep h0 T4.heap [vb] := K0.trans Kq4 (allS (Or.inl (List.mem_of_getElem? (i := 0) rfl)) all0)
  refine Comes.go st4 ?_
  show Comes p e below _ (T4.setTop (mkF m 18 #[.val (.ref sb), .val (.int (8 : Int32)), .val (.ref sg)] []))
  exact Comes.ret0 X4 hx Bd.returns hlk (hb hby d12_18) rfl ⟨r5, rfl, N4, K4, P4_0, (by assumption)⟩ (by decide) (by decide)
def Q_aa8_8 (Z : State) (sb sg sv : Nat) (kv : ClassId) (vs : List Value) (cs : Int32) (vb : Nat) (kb : ClassId) (wl : List Value) (h0 : Heap) (n0 : Nat) (v_ : Option Value) (h : Heap) (L_ : List Loc) : Prop := ∃ (wm : List Value), (v_ = some (.ref sb)) ∧ (Fr n0 L_) ∧ (Keep h0 h [sb, vb]) ∧ (Exa Z h sb "java/lang/StringBuilder") ∧ (Fld Z h sb "java/lang/AbstractStringBuilder" "value" "[B" (.ref vb)) ∧ (Fld Z h sb "java/lang/AbstractStringBuilder" "coder" "B" (.int (0 : Int32))) ∧ (Fld Z h sb "java/lang/AbstractStringBuilder" "count" "I" (.int (16 : Int32))) ∧ (Arv Z h vb kb .byte (16 : Int32) wm (.int (0 : Int32))) ∧ (wm.length = 16) ∧ (Exa Z h vb "[B")
theorem aa8_8 (l : Launch) (Z : State) (a0 : Array Value) (hw : ∀ d ∈ tables_1, d.before a0 Z = true) (ws : List Jvm.Cond) (sb sg sv : Nat) (kv : ClassId) (vs : List Value) (cs : Int32) (vb : Nat) (kb : ClassId) (wl : List Value) (h0 : Heap) (n0 : Nat) (Z0 : n0 ≤ h0.size) (G0 : Exa Z h0 sb "java/lang/StringBuilder") (G1 : Fld Z h0 sb "java/lang/AbstractStringBuilder" "value" "[B" (.ref vb)) (G2 : Fld Z h0 sb "java/lang/AbstractStringBuilder" "coder" "B" (.int (0 : Int32))) (G3 : Fld Z h0 sb "java/lang/AbstractStringBuilder" "count" "I" (.int (8 : Int32))) (G4 : Exa Z h0 sg "java/lang/String") (G5 : Fld Z h0 sg "java/lang/String" "value" "[B" (.ref sv)) (G6 : Fld Z h0 sg "java/lang/String" "coder" "B" (.int (0 : Int32))) (G7 : Arv Z h0 sv kv .byte (8 : Int32) vs (.int (0 : Int32))) (G8 : Arv Z h0 vb kb .byte (16 : Int32) wl (.int (0 : Int32))) (G9 : Exa Z h0 vb "[B") (G10 : wl.length = 16) (G11 : Sta Z Z.heap "java/lang/String" "COMPACT_STRINGS" "Z" (.int cs)) (G12 : ¬ (cs = (0 : Int32))) (G13 : Old Z n0 h0) (G14 : sv ≠ vb) (G15 : n0 ≤ vb) (G16 : sb ≠ vb) (G17 : sg ≠ vb) (G18 : n0 ≤ sb) (G19 : sg ≠ sb) (G20 : sv ≠ sb) :
    MetFree l (⟨"java/lang/AbstractStringBuilder", "append", "(Ljava/lang/String;)Ljava/lang/AbstractStringBuilder;"⟩ : MethodName) (head1 (Jvm.Cond.code (⟨"java/lang/AbstractStringBuilder", "append", "(Ljava/lang/String;)Ljava/lang/AbstractStringBuilder;"⟩ : MethodName) jdk_68_method_22_code 3 (some (.object "java/lang/AbstractStringBuilder")) :: ws) (Rm 3 0 0 56)) (fun a_ U_ => a_ = #[(.ref sb), (.ref sg)] ∧ Z.Warmed39 U_.vm ∧ U_.heap = h0) (fun _ _ _ _ _ => True) (fun _ U_ o_ V_ => ∃ v_ L_, o_ = .returned v_ ∧ Q_aa8_8 Z sb sg sv kv vs cs vb kb wl h0 n0 v_ V_.heap L_ ∧ FrameEnd U_ o_ V_ L_ (Rm 3 0 0 56).cells (Rm 3 0 0 56).slots) := by
  refine MetFree.of_bodySF (plainFor_of_name pn_8) hisR ?_
  intro p e s m args below meth c s₁ Bd hml0 hP hK
  obtain ⟨rfl, hZ, hh⟩ := hP
  have hx := Bd.exec
  have hby := Bd.bytes
  have hml : c.maxLocals = 3 := hml0
  have hown : s.vm.findClass "java/lang/AbstractStringBuilder" = some m.cls := findClass_of_methodNamed Bd.named
  have hnm := (name_of_methodNamed Bd.named Bd.method).1
  have hlk : meth.locks = false := Bd.notSynchronized
  have X0 : Stand p l e (Rm 3 0 0 56) s m #[(.ref sb), (.ref sg)] below meth c s₁ [] 0 0 := Stand.of_body Bd
  have e0 : s₁.heap = h0 := by rw [← hh, Bd.state]; rfl
  have N0 := Fr.nil n0
  have K0 := Keep.refl h0 [sb, vb]
  refine Comes.out (Q := Q_aa8_8 Z sb sg sv kv vs cs vb kb wl h0 n0) (kc := (Rm 3 0 0 56).cells) (ks := (Rm 3 0 0 56).slots) ?_
  refine Comes.cast (ef_aa8_8 m sb sg) ?_
  have lt_sb : sb < h0.size := G0.lt
  have lt_sg : sg < h0.size := G4.lt
  have lt_sv : sv < h0.size := G7.lt
  have lt_vb : vb < h0.size := G8.lt
  show Comes p e below _ (s₁.setTop (mkF m 0 #[.val (.ref sb), .val (.ref sg), .unset] []))
  refine Comes.st (fun t k => XS.aloadN X0.here hx rfl (hb hby d8_0) rfl rfl (XS.ifnonnullYes X0.here hx rfl (pc0 := 1) (pc' := 9) rfl (hb hby d8_1) rfl (by decide) (by decide) (XS.aloadN X0.here hx rfl (hb hby d8_9) rfl rfl k))) ?_
  show Comes p e below _ (s₁.setTop (mkF m 10 #[.val (.ref sb), .val (.ref sg), .unset] [(.ref sg)]))
  obtain ⟨cq1, kq1, q1a, q1b, q1c⟩ := isOf hZ e0 G4
  obtain ⟨_, _, ⟨T1, L1, k1, n1⟩, -, X1, ⟨Lc1, hQ1, l1, y1, z1⟩, st1⟩ := X0.virtualBack hx (y := (⟨"java/lang/String", "length", "()I"⟩ : MethodName)) (z := (⟨"java/lang/String", "length", "()I"⟩ : MethodName)) hown (mvT hZ (W hw 58)) (mvT hZ (W hw 59)) (notFace_of_selects (args := #[]) (mvT hZ (W hw 61))) (mvT hZ (W hw 61)) (mvT hZ (W hw 60)) (by decide) (backOf (W := 0) (len8 l Z a0 hw [] sg sv kv vs cs h0 n0 (by omega)  G4 G5 G6 G7 G11 (by assumption) G13) hZ (W hw 62) (W hw 12) (by decide) (by decide)) q1a q1c (g := (mkF m 10 #[.val (.ref sb), .val (.ref sg), .unset] [(.ref sg)])) rfl (by rw [hml]; rfl) (Steps.refl _) (argsL := []) (rest := []) (lenOf pd_4 rfl) rfl (by show 2 * 0 + _ ≤ _; exact Nat.le_of_eq rfl) (hb hby d8_10) (fun _ _ => ⟨rfl, e0, (by decide : 0 + 0 ≤ _), (by decide : 0 + 0 ≤ _)⟩)
  dsimp only [Pt.U, Pt.locs, Pt.cells, Pt.slots] at X1 l1 y1 z1 st1 hQ1
  subst l1 y1 z1
  obtain ⟨rfl, Nq1, hs1⟩ := hQ1
  have N1 := Fr.app N0 Nq1
  refine Comes.go st1 ?_
  show Comes p e below _ (T1.setTop (mkF m 13 #[.val (.ref sb), .val (.ref sg), .unset] [(.int (8 : Int32))]))
  refine Comes.st (fun t k => XS.istoreN X1.here hx rfl (hb hby d8_13) rfl (l' := #[.val (.ref sb), .val (.ref sg), .val (.int (8 : Int32))]) rfl (XS.aloadN X1.here hx rfl (hb hby d8_14) rfl rfl (XS.aloadN X1.here hx rfl (hb hby d8_15) rfl rfl k))) ?_
  show Comes p e below _ (T1.setTop (mkF m 16 #[.val (.ref sb), .val (.ref sg), .val (.int (8 : Int32))] [(.ref sb), (.ref sb)]))
  obtain ⟨T2, X2, e2, st2⟩ := getF X1 hx hZ hown (host := "") (Or.inl (W hw 71)) Via.refl hs1 G3 (g := (mkF m 16 #[.val (.ref sb), .val (.ref sg), .val (.int (8 : Int32))] [(.ref sb), (.ref sb)])) rfl rfl (hb hby d8_16)
  refine Comes.st st2 ?_
  show Comes p e below _ (T2.setTop (mkF m 19 #[.val (.ref sb), .val (.ref sg), .val (.int (8 : Int32))] [(.int (8 : Int32)), (.ref sb)]))
  refine Comes.st (fun t k => XS.iloadN X2.here hx rfl (hb hby d8_19) rfl (XS.iadd X2.here hx rfl (hb hby d8_20) rfl k)) ?_
  show Comes p e below _ (T2.setTop (mkF m 21 #[.val (.ref sb), .val (.ref sg), .val (.int (8 : Int32))] [(.int ((8 : Int32) + (8 : Int32))), (.ref sb)]))
  rw [show ((8 : Int32) + (8 : Int32)) = (16 : Int32) from by decide]
  show Comes p e below _ (T2.setTop (mkF m 21 #[.val (.ref sb), .val (.ref sg), .val (.int (8 : Int32))] [(.int (16 : Int32)), (.ref sb)]))
  obtain ⟨cq3, q3, q3'⟩ := G0.cell
  obtain ⟨_, _, ⟨T3, L3, k3, n3⟩, -, X3, ⟨Lc3, hQ3, l3, y3, z3⟩, st3⟩ := X2.privateBack hx (y := (⟨"java/lang/AbstractStringBuilder", "ensureCapacityInternal", "(I)V"⟩ : MethodName)) hown (mvT hZ (W hw 73)) (mvT hZ (W hw 74)) (mvT hZ (own_selq (y := (⟨"java/lang/AbstractStringBuilder", "ensureCapacityInternal", "(I)V"⟩ : MethodName)) (W hw 76) (W hw 75) (W hw 74) (by decide))) (Cond.privateMethod_at (mvP hZ (W hw 75) (args := #[]))) (mvT hZ (W hw 77)) (by decide) (backOf (W := 0) (ens16 l Z a0 hw [] sb vb kb wl ((8 : Int32)) h0 n0 (by omega)  G0 G1 G2 G3 G8) hZ (W hw 77) (W hw 40) (by decide) (by decide)) (g := (mkF m 21 #[.val (.ref sb), .val (.ref sg), .val (.int (8 : Int32))] [(.int (16 : Int32)), (.ref sb)])) rfl (by rw [hml]; rfl) (Steps.refl _) (a := sb) (by rw [e2]; exact q3) q3' (argsL := [(.int (16 : Int32))]) (rest := []) (lenOf pd_0 rfl) rfl (by show 2 * 0 + _ ≤ _; exact Nat.le_of_eq rfl) (hb hby d8_21) (fun _ _ => ⟨rfl, e2, (by decide : 0 + 0 ≤ _), (by decide : 0 + 0 ≤ _)⟩)
  dsimp only [Pt.U, Pt.locs, Pt.cells, Pt.slots] at X3 l3 y3 z3 st3 hQ3
  subst l3 y3 z3
  obtain ⟨rfl, Nq3, hs3⟩ := hQ3
  have N3 := Fr.app N1 Nq3
  refine Comes.go st3 ?_
  show Comes p e below _ (T3.setTop (mkF m 24 #[.val (.ref sb), .val (.ref sg), .val (.int (8 : Int32))] []))
  refine Comes.st (fun t k => XS.aloadN X3.here hx rfl (hb hby d8_24) rfl rfl (XS.aloadN X3.here hx rfl (hb hby d8_25) rfl rfl k)) ?_
  show Comes p e below _ (T3.setTop (mkF m 26 #[.val (.ref sb), .val (.ref sg), .val (.int (8 : Int32))] [(.ref sb), (.ref sb)]))
  obtain ⟨T4, X4, e4, st4⟩ := getF X3 hx hZ hown (host := "") (Or.inl (W hw 71)) Via.refl hs3 G3 (g := (mkF m 26 #[.val (.ref sb), .val (.ref sg), .val (.int (8 : Int32))] [(.ref sb), (.ref sb)])) rfl rfl (hb hby d8_26)
  refine Comes.st st4 ?_
  show Comes p e below _ (T4.setTop (mkF m 29 #[.val (.ref sb), .val (.ref sg), .val (.int (8 : Int32))] [(.int (8 : Int32)), (.ref sb)]))
  refine Comes.st (fun t k => XS.aloadN X4.here hx rfl (hb hby d8_29) rfl rfl k) ?_
  show Comes p e below _ (T4.setTop (mkF m 30 #[.val (.ref sb), .val (.ref sg), .val (.int (8 : Int32))] [(.ref sg), (.int (8 : Int32)), (.ref sb)]))
  obtain ⟨cq5, q5, q5'⟩ := G0.cell
  obtain ⟨_, _, ⟨T5, L5, k5, n5⟩, -, X5, ⟨Lc5, hQ5, l5, y5, z5⟩, st5⟩ := X4.privateBack hx (y := (⟨"java/lang/AbstractStringBuilder", "putStringAt", "(ILjava/lang/String;)V"⟩ : MethodName)) hown (mvT hZ (W hw 78)) (mvT hZ (W hw 79)) (mvT hZ (own_selq (y := (⟨"java/lang/AbstractStringBuilder", "putStringAt", "(ILjava/lang/String;)V"⟩ : MethodName)) (W hw 81) (W hw 80) (W hw 79) (by decide))) (Cond.privateMethod_at (mvP hZ (W hw 80) (args := #[]))) (mvT hZ (W hw 82)) (by decide) (backOf (W := 0) (ps8_8 l Z a0 hw [] sb sg sv kv vs cs vb kb wl h0 n0 (by omega)  G0 G1 G2 G3 G4 G5 G6 G7 G8 G9 (by first | assumption | rfl) G11 (by assumption) G13 G14 (by omega) G16 G17) hZ (W hw 82) (W hw 40) (by decide) (by decide)) (g := (mkF m 30 #[.val (.ref sb), .val (.ref sg), .val (.int (8 : Int32))] [(.ref sg), (.int (8 : Int32)), (.ref sb)])) rfl (by rw [hml]; rfl) (Steps.refl _) (a := sb) (by rw [e4]; exact q5) q5' (argsL := [(.int (8 : Int32)), (.ref sg)]) (rest := []) (lenOf pd_5 rfl) rfl (by show 2 * 0 + _ ≤ _; exact Nat.le_of_eq rfl) (hb hby d8_30) (fun _ _ => ⟨rfl, e4, (by decide : 0 + 0 ≤ _), (by decide : 0 + 0 ≤ _)⟩)
  dsimp only [Pt.U, Pt.locs, Pt.cells, Pt.slots] at X5 l5 y5 z5 st5 hQ5
  subst l5 y5 z5
  obtain ⟨r6, rfl, Nq5, Kq5, P5_0, P5_1⟩ := hQ5
  have N5 := Fr.app N3 Nq5
  have z5k : h0.size ≤ T5.heap.size := Kq5.1
  have K5 : Keep h0 T5.heap [sb, vb] := K0.trans Kq5 (allS (Or.inl (List.mem_of_getElem? (i := 1) rfl)) all0)
  refine Comes.go st5 ?_
  show Comes p e below _ (T5.setTop (mkF m 33 #[.val (.ref sb), .val (.ref sg), .val (.int (8 : Int32))] []))
  refine Comes.st (fun t k => XS.aloadN X5.here hx rfl (hb hby d8_33) rfl rfl (XS.dup X5.here hx rfl (hb hby d8_34) rfl rfl k)) ?_
  show Comes p e below _ (T5.setTop (mkF m 35 #[.val (.ref sb), .val (.ref sg), .val (.int (8 : Int32))] [(.ref sb), (.ref sb)]))
  have F7 : Fld Z T5.heap sb "java/lang/AbstractStringBuilder" "count" "I" (.int (8 : Int32)) := (G3.keep Kq5 (ninS G16 nin0))
  obtain ⟨T8, X8, e8, st8⟩ := getF X5 hx hZ hown (host := "") (Or.inl (W hw 71)) Via.refl rfl F7 (g := (mkF m 35 #[.val (.ref sb), .val (.ref sg), .val (.int (8 : Int32))] [(.ref sb), (.ref sb)])) rfl rfl (hb hby d8_35)
  refine Comes.st st8 ?_
  show Comes p e below _ (T8.setTop (mkF m 38 #[.val (.ref sb), .val (.ref sg), .val (.int (8 : Int32))] [(.int (8 : Int32)), (.ref sb)]))
  refine Comes.st (fun t k => XS.iloadN X8.here hx rfl (hb hby d8_38) rfl (XS.iadd X8.here hx rfl (hb hby d8_39) rfl k)) ?_
  show Comes p e below _ (T8.setTop (mkF m 40 #[.val (.ref sb), .val (.ref sg), .val (.int (8 : Int32))] [(.int ((8 : Int32) + (8 : Int32))), (.ref sb)]))
  rw [show ((8 : Int32) + (8 : Int32)) = (16 : Int32) from by decide]
  show Comes p e below _ (T8.setTop (mkF m 40 #[.val (.ref sb), .val (.ref sg), .val (.int (8 : Int32))] [(.int (16 : Int32)), (.ref sb)]))
  have F9 : Exa Z T5.heap sb "java/lang/StringBuilder" := (G0.keep Kq5)
  obtain ⟨T10, h10, X10, e10, W10, st10⟩ := putF X8 hx hZ hown (host := "") (Or.inl (W hw 71)) Via.refl e8 F7 F9 (Or.inl (W hw 72)) (W hw 31) (ty := .int) (by decide) rfl rfl (g := (mkF m 40 #[.val (.ref sb), .val (.ref sg), .val (.int (8 : Int32))] [(.int (16 : Int32)), (.ref sb)])) rfl rfl (hb hby d8_40)
  have Fw10 := F7.same W10
  have z10 : h10.size = T5.heap.size := W10.size
  have gn11 : n0 ≤ sb := by omega
  have N10 := Fr.snoc X10 N5 gn11
  have K10 : Keep h0 h10 [sb, vb] := K5.wr W10 (Or.inl (List.mem_of_getElem? (i := 0) rfl))
  refine Comes.st st10 ?_
  show Comes p e below _ (T10.setTop (mkF m 43 #[.val (.ref sb), .val (.ref sg), .val (.int (8 : Int32))] []))
  refine Comes.st (fun t k => XS.aloadN X10.here hx rfl (hb hby d8_43) rfl rfl k) ?_
  show Comes p e below _ (T10.setTop (mkF m 44 #[.val (.ref sb), .val (.ref sg), .val (.int (8 : Int32))] [(.ref sb)]))
  have F12 : Exa Z h10 sb "java/lang/StringBuilder" := (F9.wr W10)
  have F13 : Fld Z h10 sb "java/lang/AbstractStringBuilder" "value" "[B" (.ref vb) := ((G1.keep Kq5 (ninS G16 nin0)).other W10 (Or.inr (slot_ne (Or.inl (W hw 45)) (Or.inl (W hw 72)) (by decide) (t := (.array .byte)) (t' := .int) (by decide) (by decide))))
  have F14 : Fld Z h10 sb "java/lang/AbstractStringBuilder" "coder" "B" (.int (0 : Int32)) := ((G2.keep Kq5 (ninS G16 nin0)).other W10 (Or.inr (slot_ne (Or.inl (W hw 47)) (Or.inl (W hw 72)) (by decide) (t := .byte) (t' := .int) (by decide) (by decide))))
  have F15 : Arv Z h10 vb kb .byte (16 : Int32) r6 (.int (0 : Int32)) := (P5_0.other W10 (Ne.symm G16))
  have F16 : Exa Z h10 vb "[B" := ((G9.keep Kq5).wr W10)
  exact Comes.retV X10 hx Bd.returns (narrow_ref rfl) (Or.inr (Or.inr (Or.inr (Or.inr ⟨rfl, rfl, rfl⟩)))) hlk (hb hby d8_44) e10 ⟨r6, rfl, N10, K10, F12, F13, F14, Fw10, F15, (by assumption), F16⟩ (by decide) (by decide)
def Q_ap8_8 (Z : State) (sb sg sv : Nat) (kv : ClassId) (vs : List Value) (cs : Int32) (vb : Nat) (kb : ClassId) (wl : List Value) (h0 : Heap) (n0 : Nat) (v_ : Option Value) (h : Heap) (L_ : List Loc) : Prop := ∃ (wm : List Value), (v_ = some (.ref sb)) ∧ (Fr n0 L_) ∧ (Keep h0 h [sb, vb]) ∧ (Exa Z h sb "java/lang/StringBuilder") ∧ (Fld Z h sb "java/lang/AbstractStringBuilder" "value" "[B" (.ref vb)) ∧ (Fld Z h sb "java/lang/AbstractStringBuilder" "coder" "B" (.int (0 : Int32))) ∧ (Fld Z h sb "java/lang/AbstractStringBuilder" "count" "I" (.int (16 : Int32))) ∧ (Arv Z h vb kb .byte (16 : Int32) wm (.int (0 : Int32))) ∧ (wm.length = 16) ∧ (Exa Z h vb "[B")
theorem ap8_8 (l : Launch) (Z : State) (a0 : Array Value) (hw : ∀ d ∈ tables_1, d.before a0 Z = true) (ws : List Jvm.Cond) (sb sg sv : Nat) (kv : ClassId) (vs : List Value) (cs : Int32) (vb : Nat) (kb : ClassId) (wl : List Value) (h0 : Heap) (n0 : Nat) (Z0 : n0 ≤ h0.size) (G0 : Exa Z h0 sb "java/lang/StringBuilder") (G1 : Fld Z h0 sb "java/lang/AbstractStringBuilder" "value" "[B" (.ref vb)) (G2 : Fld Z h0 sb "java/lang/AbstractStringBuilder" "coder" "B" (.int (0 : Int32))) (G3 : Fld Z h0 sb "java/lang/AbstractStringBuilder" "count" "I" (.int (8 : Int32))) (G4 : Exa Z h0 sg "java/lang/String") (G5 : Fld Z h0 sg "java/lang/String" "value" "[B" (.ref sv)) (G6 : Fld Z h0 sg "java/lang/String" "coder" "B" (.int (0 : Int32))) (G7 : Arv Z h0 sv kv .byte (8 : Int32) vs (.int (0 : Int32))) (G8 : Arv Z h0 vb kb .byte (16 : Int32) wl (.int (0 : Int32))) (G9 : Exa Z h0 vb "[B") (G10 : wl.length = 16) (G11 : Sta Z Z.heap "java/lang/String" "COMPACT_STRINGS" "Z" (.int cs)) (G12 : ¬ (cs = (0 : Int32))) (G13 : Old Z n0 h0) (G14 : sv ≠ vb) (G15 : n0 ≤ vb) (G16 : sb ≠ vb) (G17 : sg ≠ vb) (G18 : n0 ≤ sb) (G19 : sg ≠ sb) (G20 : sv ≠ sb) :
    MetFree l (⟨"java/lang/StringBuilder", "append", "(Ljava/lang/String;)Ljava/lang/StringBuilder;"⟩ : MethodName) (head1 (Jvm.Cond.code (⟨"java/lang/StringBuilder", "append", "(Ljava/lang/String;)Ljava/lang/StringBuilder;"⟩ : MethodName) jdk_67_method_7_code 2 (some (.object "java/lang/StringBuilder")) :: ws) (Rm 4 0 0 70)) (fun a_ U_ => a_ = #[(.ref sb), (.ref sg)] ∧ Z.Warmed39 U_.vm ∧ U_.heap = h0) (fun _ _ _ _ _ => True) (fun _ U_ o_ V_ => ∃ v_ L_, o_ = .returned v_ ∧ Q_ap8_8 Z sb sg sv kv vs cs vb kb wl h0 n0 v_ V_.heap L_ ∧ FrameEnd U_ o_ V_ L_ (Rm 4 0 0 70).cells (Rm 4 0 0 70).slots) := by
  refine MetFree.of_bodySF (plainFor_of_name pn_7) hisR ?_
  intro p e s m args below meth c s₁ Bd hml0 hP hK
  obtain ⟨rfl, hZ, hh⟩ := hP
  have hx := Bd.exec
  have hby := Bd.bytes
  have hml : c.maxLocals = 2 := hml0
  have hown : s.vm.findClass "java/lang/StringBuilder" = some m.cls := findClass_of_methodNamed Bd.named
  have hnm := (name_of_methodNamed Bd.named Bd.method).1
  have hlk : meth.locks = false := Bd.notSynchronized
  have X0 : Stand p l e (Rm 4 0 0 70) s m #[(.ref sb), (.ref sg)] below meth c s₁ [] 0 0 := Stand.of_body Bd
  have e0 : s₁.heap = h0 := by rw [← hh, Bd.state]; rfl
  have N0 := Fr.nil n0
  have K0 := Keep.refl h0 [sb, vb]
  refine Comes.out (Q := Q_ap8_8 Z sb sg sv kv vs cs vb kb wl h0 n0) (kc := (Rm 4 0 0 70).cells) (ks := (Rm 4 0 0 70).slots) ?_
  refine Comes.cast (ef_ap8_8 m sb sg) ?_
  have lt_sb : sb < h0.size := G0.lt
  have lt_sg : sg < h0.size := G4.lt
  have lt_sv : sv < h0.size := G7.lt
  have lt_vb : vb < h0.size := G8.lt
  show Comes p e below _ (s₁.setTop (mkF m 0 #[.val (.ref sb), .val (.ref sg)] []))
  refine Comes.st (fun t k => XS.aloadN X0.here hx rfl (hb hby d7_0) rfl rfl (XS.aloadN X0.here hx rfl (hb hby d7_1) rfl rfl k)) ?_
  show Comes p e below _ (s₁.setTop (mkF m 2 #[.val (.ref sb), .val (.ref sg)] [(.ref sg), (.ref sb)]))
  obtain ⟨_, _, ⟨T1, L1, k1, n1⟩, -, X1, ⟨Lc1, hQ1, l1, y1, z1⟩, st1⟩ := superBack X0 hx hZ (y := (⟨"java/lang/AbstractStringBuilder", "append", "(Ljava/lang/String;)Ljava/lang/AbstractStringBuilder;"⟩ : MethodName)) hown (W hw 53) (own_same (y := (⟨"java/lang/AbstractStringBuilder", "append", "(Ljava/lang/String;)Ljava/lang/AbstractStringBuilder;"⟩ : MethodName)) (z := (⟨"java/lang/AbstractStringBuilder", "ensureCapacityInternal", "(I)V"⟩ : MethodName)) (W hw 76) rfl (W hw 54) (by decide)) (W hw 54) (W hw 55) (by decide) (backOf (W := 0) (aa8_8 l Z a0 hw [] sb sg sv kv vs cs vb kb wl h0 n0 (by omega)  G0 G1 G2 G3 G4 G5 G6 G7 G8 G9 (by first | assumption | rfl) G11 (by assumption) G13 G14 (by omega) G16 G17 (by omega) G19 G20) hZ (W hw 57) (W hw 40) (by decide) (by decide)) e0 (Ins.self G0) (g := (mkF m 2 #[.val (.ref sb), .val (.ref sg)] [(.ref sg), (.ref sb)])) rfl (by rw [hml]; rfl) (W hw 57) (argsL := [(.ref sg)]) (rest := []) (lenOf pd_6 rfl) rfl (by show 2 * 0 + _ ≤ _; exact Nat.le_of_eq rfl) (hb hby d7_2) (fun _ _ => ⟨rfl, e0, (by decide : 0 + 0 ≤ _), (by decide : 0 + 0 ≤ _)⟩)
  dsimp only [Pt.U, Pt.locs, Pt.cells, Pt.slots] at X1 l1 y1 z1 st1 hQ1
  subst l1 y1 z1
  obtain ⟨r2, rfl, Nq1, Kq1, P1_0, P1_1, P1_2, P1_3, P1_4, P1_5, P1_6⟩ := hQ1
  have N1 := Fr.app N0 Nq1
  have z1k : h0.size ≤ T1.heap.size := Kq1.1
  have K1 : Keep h0 T1.heap [sb, vb] := K0.trans Kq1 (allS (Or.inl (List.mem_of_getElem? (i := 0) rfl)) (allS (Or.inl (List.mem_of_getElem? (i := 1) rfl)) all0))
  refine Comes.go st1 ?_
  show Comes p e below _ (T1.setTop (mkF m 5 #[.val (.ref sb), .val (.ref sg)] [(.ref sb)]))
  refine Comes.st (fun t k => XS.pop X1.here hx rfl (hb hby d7_5) rfl rfl (XS.aloadN X1.here hx rfl (hb hby d7_6) rfl rfl k)) ?_
  show Comes p e below _ (T1.setTop (mkF m 7 #[.val (.ref sb), .val (.ref sg)] [(.ref sb)]))
  exact Comes.retV X1 hx Bd.returns (narrow_ref rfl) (Or.inr (Or.inr (Or.inr (Or.inr ⟨rfl, rfl, rfl⟩)))) hlk (hb hby d7_7) rfl ⟨r2, rfl, N1, K1, P1_0, P1_1, P1_2, P1_3, P1_4, (by assumption), P1_6⟩ (by decide) (by decide)
def Q_rm18 (Z : State) (sb vb : Nat) (h0 : Heap) (n0 : Nat) (v_ : Option Value) (h : Heap) (L_ : List Loc) : Prop := (v_ = some (.ref vb)) ∧ (Fr n0 L_) ∧ (h = h0)
theorem rm18 (l : Launch) (Z : State) (a0 : Array Value) (hw : ∀ d ∈ tables_1, d.before a0 Z = true) (ws : List Jvm.Cond) (sb vb : Nat) (h0 : Heap) (n0 : Nat) (Z0 : n0 ≤ h0.size) (G0 : Exa Z h0 sb "java/lang/StringBuilder") (G1 : Fld Z h0 sb "java/lang/AbstractStringBuilder" "value" "[B" (.ref vb)) :
    MetFree l (⟨"java/lang/AbstractStringBuilder", "getValue", "()[B"⟩ : MethodName) (head1 (Jvm.Cond.code (⟨"java/lang/AbstractStringBuilder", "getValue", "()[B"⟩ : MethodName) jdk_68_method_64_code 1 (some (.array .byte)) :: ws) (Rm 0 0 0 0)) (fun a_ U_ => a_ = #[(.ref sb)] ∧ Z.Warmed39 U_.vm ∧ U_.heap = h0) (fun _ _ _ _ _ => True) (fun _ U_ o_ V_ => ∃ v_ L_, o_ = .returned v_ ∧ Q_rm18 Z sb vb h0 n0 v_ V_.heap L_ ∧ FrameEnd U_ o_ V_ L_ (Rm 0 0 0 0).cells (Rm 0 0 0 0).slots) := by
  refine MetFree.of_bodySF (plainFor_of_name pn_18) hisR ?_
  intro p e s m args below meth c s₁ Bd hml0 hP hK
  obtain ⟨rfl, hZ, hh⟩ := hP
  have hx := Bd.exec
  have hby := Bd.bytes
  have hml : c.maxLocals = 1 := hml0
  have hown : s.vm.findClass "java/lang/AbstractStringBuilder" = some m.cls := findClass_of_methodNamed Bd.named
  have hnm := (name_of_methodNamed Bd.named Bd.method).1
  have hlk : meth.locks = false := Bd.notSynchronized
  have X0 : Stand p l e (Rm 0 0 0 0) s m #[(.ref sb)] below meth c s₁ [] 0 0 := Stand.of_body Bd
  have e0 : s₁.heap = h0 := by rw [← hh, Bd.state]; rfl
  have N0 := Fr.nil n0
  refine Comes.out (Q := Q_rm18 Z sb vb h0 n0) (kc := (Rm 0 0 0 0).cells) (ks := (Rm 0 0 0 0).slots) ?_
  refine Comes.cast (ef_rm18 m sb) ?_
  have lt_sb : sb < h0.size := G0.lt
  show Comes p e below _ (s₁.setTop (mkF m 0 #[.val (.ref sb)] []))
  refine Comes.st (fun t k => XS.aloadN X0.here hx rfl (hb hby d18_0) rfl rfl k) ?_
  show Comes p e below _ (s₁.setTop (mkF m 1 #[.val (.ref sb)] [(.ref sb)]))
  obtain ⟨T1, X1, e1, st1⟩ := getF X0 hx hZ hown (host := "") (Or.inl (W hw 44)) Via.refl e0 G1 (g := (mkF m 1 #[.val (.ref sb)] [(.ref sb)])) rfl rfl (hb hby d18_1)
  refine Comes.st st1 ?_
  show Comes p e below _ (T1.setTop (mkF m 4 #[.val (.ref sb)] [(.ref vb)]))
  exact Comes.retV X1 hx Bd.returns (narrow_ref rfl) (Or.inr (Or.inr (Or.inr (Or.inr ⟨rfl, rfl, rfl⟩)))) hlk (hb hby d18_4) e1 ⟨rfl, N0, rfl⟩ (by decide) (by decide)
def Q_rm20 (Z : State) (sb : Nat) (ct : Int32) (h0 : Heap) (n0 : Nat) (v_ : Option Value) (h : Heap) (L_ : List Loc) : Prop := (v_ = some (.int ct)) ∧ (Fr n0 L_) ∧ (h = h0)
theorem rm20 (l : Launch) (Z : State) (a0 : Array Value) (hw : ∀ d ∈ tables_1, d.before a0 Z = true) (ws : List Jvm.Cond) (sb : Nat) (ct : Int32) (h0 : Heap) (n0 : Nat) (Z0 : n0 ≤ h0.size) (G0 : Exa Z h0 sb "java/lang/StringBuilder") (G1 : Fld Z h0 sb "java/lang/AbstractStringBuilder" "count" "I" (.int ct)) :
    MetFree l (⟨"java/lang/AbstractStringBuilder", "length", "()I"⟩ : MethodName) (head1 (Jvm.Cond.code (⟨"java/lang/AbstractStringBuilder", "length", "()I"⟩ : MethodName) jdk_68_method_6_code 1 (some .int) :: ws) (Rm 0 0 0 0)) (fun a_ U_ => a_ = #[(.ref sb)] ∧ Z.Warmed39 U_.vm ∧ U_.heap = h0) (fun _ _ _ _ _ => True) (fun _ U_ o_ V_ => ∃ v_ L_, o_ = .returned v_ ∧ Q_rm20 Z sb ct h0 n0 v_ V_.heap L_ ∧ FrameEnd U_ o_ V_ L_ (Rm 0 0 0 0).cells (Rm 0 0 0 0).slots) := by
  refine MetFree.of_bodySF (plainFor_of_name pn_20) hisR ?_
  intro p e s m args below meth c s₁ Bd hml0 hP hK
  obtain ⟨rfl, hZ, hh⟩ := hP
  have hx := Bd.exec
  have hby := Bd.bytes
  have hml : c.maxLocals = 1 := hml0
  have hown : s.vm.findClass "java/lang/AbstractStringBuilder" = some m.cls := findClass_of_methodNamed Bd.named
  have hnm := (name_of_methodNamed Bd.named Bd.method).1
  have hlk : meth.locks = false := Bd.notSynchronized
  have X0 : Stand p l e (Rm 0 0 0 0) s m #[(.ref sb)] below meth c s₁ [] 0 0 := Stand.of_body Bd
  have e0 : s₁.heap = h0 := by rw [← hh, Bd.state]; rfl
  have N0 := Fr.nil n0
  refine Comes.out (Q := Q_rm20 Z sb ct h0 n0) (kc := (Rm 0 0 0 0).cells) (ks := (Rm 0 0 0 0).slots) ?_
  refine Comes.cast (ef_rm20 m sb) ?_
  have lt_sb : sb < h0.size := G0.lt
  show Comes p e below _ (s₁.setTop (mkF m 0 #[.val (.ref sb)] []))
  refine Comes.st (fun t k => XS.aloadN X0.here hx rfl (hb hby d20_0) rfl rfl k) ?_
  show Comes p e below _ (s₁.setTop (mkF m 1 #[.val (.ref sb)] [(.ref sb)]))
  obtain ⟨T1, X1, e1, st1⟩ := getF X0 hx hZ hown (host := "") (Or.inl (W hw 71)) Via.refl e0 G1 (g := (mkF m 1 #[.val (.ref sb)] [(.ref sb)])) rfl rfl (hb hby d20_1)
  refine Comes.st st1 ?_
  show Comes p e below _ (T1.setTop (mkF m 4 #[.val (.ref sb)] [(.int ct)]))
  exact Comes.retV X1 hx Bd.returns rfl (Or.inl ⟨rfl, Or.inl rfl, _, rfl⟩) hlk (hb hby d20_4) e1 ⟨rfl, N0, rfl⟩ (by decide) (by decide)
def Q_rm19 (Z : State) (sb : Nat) (ct : Int32) (h0 : Heap) (n0 : Nat) (v_ : Option Value) (h : Heap) (L_ : List Loc) : Prop := (v_ = some (.int ct)) ∧ (Fr n0 L_) ∧ (h = h0)
theorem rm19 (l : Launch) (Z : State) (a0 : Array Value) (hw : ∀ d ∈ tables_1, d.before a0 Z = true) (ws : List Jvm.Cond) (sb : Nat) (ct : Int32) (h0 : Heap) (n0 : Nat) (Z0 : n0 ≤ h0.size) (G0 : Exa Z h0 sb "java/lang/StringBuilder") (G1 : Fld Z h0 sb "java/lang/AbstractStringBuilder" "count" "I" (.int ct)) :
    MetFree l (⟨"java/lang/StringBuilder", "length", "()I"⟩ : MethodName) (head1 (Jvm.Cond.code (⟨"java/lang/StringBuilder", "length", "()I"⟩ : MethodName) jdk_67_method_93_code 1 (some .int) :: ws) (Rm 1 0 0 12)) (fun a_ U_ => a_ = #[(.ref sb)] ∧ Z.Warmed39 U_.vm ∧ U_.heap = h0) (fun _ _ _ _ _ => True) (fun _ U_ o_ V_ => ∃ v_ L_, o_ = .returned v_ ∧ Q_rm19 Z sb ct h0 n0 v_ V_.heap L_ ∧ FrameEnd U_ o_ V_ L_ (Rm 1 0 0 12).cells (Rm 1 0 0 12).slots) := by
  refine MetFree.of_bodySF (plainFor_of_name pn_19) hisR ?_
  intro p e s m args below meth c s₁ Bd hml0 hP hK
  obtain ⟨rfl, hZ, hh⟩ := hP
  have hx := Bd.exec
  have hby := Bd.bytes
  have hml : c.maxLocals = 1 := hml0
  have hown : s.vm.findClass "java/lang/StringBuilder" = some m.cls := findClass_of_methodNamed Bd.named
  have hnm := (name_of_methodNamed Bd.named Bd.method).1
  have hlk : meth.locks = false := Bd.notSynchronized
  have X0 : Stand p l e (Rm 1 0 0 12) s m #[(.ref sb)] below meth c s₁ [] 0 0 := Stand.of_body Bd
  have e0 : s₁.heap = h0 := by rw [← hh, Bd.state]; rfl
  have N0 := Fr.nil n0
  refine Comes.out (Q := Q_rm19 Z sb ct h0 n0) (kc := (Rm 1 0 0 12).cells) (ks := (Rm 1 0 0 12).slots) ?_
  refine Comes.cast (ef_rm19 m sb) ?_
  have lt_sb : sb < h0.size := G0.lt
  show Comes p e below _ (s₁.setTop (mkF m 0 #[.val (.ref sb)] []))
  refine Comes.st (fun t k => XS.aloadN X0.here hx rfl (hb hby d19_0) rfl rfl k) ?_
  show Comes p e below _ (s₁.setTop (mkF m 1 #[.val (.ref sb)] [(.ref sb)]))
  obtain ⟨_, _, ⟨T1, L1, k1, n1⟩, -, X1, ⟨Lc1, hQ1, l1, y1, z1⟩, st1⟩ := superBack X0 hx hZ (y := (⟨"java/lang/AbstractStringBuilder", "length", "()I"⟩ : MethodName)) hown (W hw 124) (own_same (y := (⟨"java/lang/AbstractStringBuilder", "length", "()I"⟩ : MethodName)) (z := (⟨"java/lang/AbstractStringBuilder", "ensureCapacityInternal", "(I)V"⟩ : MethodName)) (W hw 76) rfl (W hw 120) (by decide)) (W hw 120) (W hw 55) (by decide) (backOf (W := 0) (rm20 l Z a0 hw [] sb ct h0 n0 (by omega)  G0 G1) hZ (W hw 125) (W hw 40) (by decide) (by decide)) e0 (Ins.self G0) (g := (mkF m 1 #[.val (.ref sb)] [(.ref sb)])) rfl (by rw [hml]; rfl) (W hw 125) (argsL := []) (rest := []) (lenOf pd_4 rfl) rfl (by show 2 * 0 + _ ≤ _; exact Nat.le_of_eq rfl) (hb hby d19_1) (fun _ _ => ⟨rfl, e0, (by decide : 0 + 0 ≤ _), (by decide : 0 + 0 ≤ _)⟩)
  dsimp only [Pt.U, Pt.locs, Pt.cells, Pt.slots] at X1 l1 y1 z1 st1 hQ1
  subst l1 y1 z1
  obtain ⟨rfl, Nq1, hs1⟩ := hQ1
  have N1 := Fr.app N0 Nq1
  refine Comes.go st1 ?_
  show Comes p e below _ (T1.setTop (mkF m 4 #[.val (.ref sb)] [(.int ct)]))
  exact Comes.retV X1 hx Bd.returns rfl (Or.inl ⟨rfl, Or.inl rfl, _, rfl⟩) hlk (hb hby d19_4) hs1 ⟨rfl, N1, rfl⟩ (by decide) (by decide)
def Q_rm21 (Z : State) (sb : Nat) (cs : Int32) (h0 : Heap) (n0 : Nat) (v_ : Option Value) (h : Heap) (L_ : List Loc) : Prop := (v_ = some (.int (1 : Int32))) ∧ (Fr n0 L_) ∧ (h = h0)
theorem rm21 (l : Launch) (Z : State) (a0 : Array Value) (hw : ∀ d ∈ tables_1, d.before a0 Z = true) (ws : List Jvm.Cond) (sb : Nat) (cs : Int32) (h0 : Heap) (n0 : Nat) (Z0 : n0 ≤ h0.size) (G0 : Exa Z h0 sb "java/lang/StringBuilder") (G1 : Fld Z h0 sb "java/lang/AbstractStringBuilder" "coder" "B" (.int (0 : Int32))) (G2 : Sta Z Z.heap "java/lang/String" "COMPACT_STRINGS" "Z" (.int cs)) (G3 : ¬ (cs = (0 : Int32))) (G4 : Old Z n0 h0) :
    MetFree l (⟨"java/lang/AbstractStringBuilder", "isLatin1", "()Z"⟩ : MethodName) (head1 (Jvm.Cond.code (⟨"java/lang/AbstractStringBuilder", "isLatin1", "()Z"⟩ : MethodName) jdk_68_method_68_code 1 (some .boolean) :: ws) (Rm 0 0 0 0)) (fun a_ U_ => a_ = #[(.ref sb)] ∧ Z.Warmed39 U_.vm ∧ U_.heap = h0) (fun _ _ _ _ _ => True) (fun _ U_ o_ V_ => ∃ v_ L_, o_ = .returned v_ ∧ Q_rm21 Z sb cs h0 n0 v_ V_.heap L_ ∧ FrameEnd U_ o_ V_ L_ (Rm 0 0 0 0).cells (Rm 0 0 0 0).slots) := by
  refine MetFree.of_bodySF (plainFor_of_name pn_21) hisR ?_
  intro p e s m args below meth c s₁ Bd hml0 hP hK
  obtain ⟨rfl, hZ, hh⟩ := hP
  have hx := Bd.exec
  have hby := Bd.bytes
  have hml : c.maxLocals = 1 := hml0
  have hown : s.vm.findClass "java/lang/AbstractStringBuilder" = some m.cls := findClass_of_methodNamed Bd.named
  have hnm := (name_of_methodNamed Bd.named Bd.method).1
  have hlk : meth.locks = false := Bd.notSynchronized
  have X0 : Stand p l e (Rm 0 0 0 0) s m #[(.ref sb)] below meth c s₁ [] 0 0 := Stand.of_body Bd
  have e0 : s₁.heap = h0 := by rw [← hh, Bd.state]; rfl
  have N0 := Fr.nil n0
  refine Comes.out (Q := Q_rm21 Z sb cs h0 n0) (kc := (Rm 0 0 0 0).cells) (ks := (Rm 0 0 0 0).slots) ?_
  refine Comes.cast (ef_rm21 m sb) ?_
  have lt_sb : sb < h0.size := G0.lt
  show Comes p e below _ (s₁.setTop (mkF m 0 #[.val (.ref sb)] []))
  obtain ⟨T1, X1, e1, st1⟩ := getS2 X0 hx hZ hown (host := "") (Or.inl (W hw 43)) Via.refl e0 (G2.ext G4.2) (g := (mkF m 0 #[.val (.ref sb)] [])) rfl (hb hby d21_0)
  refine Comes.st st1 ?_
  show Comes p e below _ (T1.setTop (mkF m 3 #[.val (.ref sb)] [(.int cs)]))
  have hc3_2 : ¬ (cs = (0 : Int32)) := by assumption
  refine Comes.st (fun t k => XS.ifNo X1.here hx rfl (hb hby d21_3) rfl ((if0 _ _).trans (feq hc3_2).1) (XS.aloadN X1.here hx rfl (hb hby d21_6) rfl rfl k)) ?_
  show Comes p e below _ (T1.setTop (mkF m 7 #[.val (.ref sb)] [(.ref sb)]))
  obtain ⟨T3, X3, e3, st3⟩ := getF X1 hx hZ hown (host := "") (Or.inl (W hw 46)) Via.refl e1 G1 (g := (mkF m 7 #[.val (.ref sb)] [(.ref sb)])) rfl rfl (hb hby d21_7)
  refine Comes.st st3 ?_
  show Comes p e below _ (T3.setTop (mkF m 10 #[.val (.ref sb)] [(.int (0 : Int32))]))
  have hc10_4 : (0 : Int32) = (0 : Int32) := by decide
  refine Comes.st (fun t k => XS.ifNo X3.here hx rfl (hb hby d21_10) rfl ((if0 _ _).trans (teq hc10_4).2) (XS.iconst X3.here hx rfl (hb hby d21_13) (XS.goto X3.here hx rfl (pc0 := 14) (pc' := 18) rfl (hb hby d21_14) (by decide) (by decide) k))) ?_
  show Comes p e below _ (T3.setTop (mkF m 18 #[.val (.ref sb)] [(.int (1 : Int32))]))
  exact Comes.retN X3 hx (t := .boolean) Bd.returns (by simp) hlk (hb hby d21_18) e3 ⟨rfl, N0, rfl⟩ (by decide) (by decide)
def Q_cl14 (Z : State)  (h0 : Heap) (n0 : Nat) (v_ : Option Value) (h : Heap) (L_ : List Loc) : Prop := (v_ = none) ∧ (Fr n0 L_) ∧ (h = h0)
theorem cl14 (l : Launch) (Z : State) (a0 : Array Value) (hw : ∀ d ∈ tables_1, d.before a0 Z = true) (ws : List Jvm.Cond)  (h0 : Heap) (n0 : Nat) (Z0 : n0 ≤ h0.size) :
    MetFree l (⟨"java/util/Arrays", "checkLength", "(II)V"⟩ : MethodName) (head1 (Jvm.Cond.code (⟨"java/util/Arrays", "checkLength", "(II)V"⟩ : MethodName) jdk_65_method_131_code 2 none :: ws) (Rm 0 0 0 0)) (fun a_ U_ => a_ = #[(.int (0 : Int32)), (.int (14 : Int32))] ∧ Z.Warmed39 U_.vm ∧ U_.heap = h0) (fun _ _ _ _ _ => True) (fun _ U_ o_ V_ => ∃ v_ L_, o_ = .returned v_ ∧ Q_cl14 Z  h0 n0 v_ V_.heap L_ ∧ FrameEnd U_ o_ V_ L_ (Rm 0 0 0 0).cells (Rm 0 0 0 0).slots) := by
  refine MetFree.of_bodySF (plainFor_of_name pn_24) hisR ?_
  intro p e s m args below meth c s₁ Bd hml0 hP hK
  obtain ⟨rfl, hZ, hh⟩ := hP
  have hx := Bd.exec
  have hby := Bd.bytes
  have hml : c.maxLocals = 2 := hml0
  have hown : s.vm.findClass "java/util/Arrays" = some m.cls := findClass_of_methodNamed Bd.named
  have hnm := (name_of_methodNamed Bd.named Bd.method).1
  have hlk : meth.locks = false := Bd.notSynchronized
  have X0 : Stand p l e (Rm 0 0 0 0) s m #[(.int (0 : Int32)), (.int (14 : Int32))] below meth c s₁ [] 0 0 := Stand.of_body Bd
  have e0 : s₁.heap = h0 := by rw [← hh, Bd.state]; rfl
  have N0 := Fr.nil n0
  refine Comes.out (Q := Q_cl14 Z  h0 n0) (kc := (Rm 0 0 0 0).cells) (ks := (Rm 0 0 0 0).slots) ?_
  refine Comes.cast (ef_cl14 m ) ?_
  show Comes p e below _ (s₁.setTop (mkF m 0 #[.val (.int (0 : Int32)), .val (.int (14 : Int32))] []))
  refine Comes.st (fun t k => XS.iloadN X0.here hx rfl (hb hby d24_0) rfl (XS.iloadN X0.here hx rfl (hb hby d24_1) rfl k)) ?_
  show Comes p e below _ (s₁.setTop (mkF m 2 #[.val (.int (0 : Int32)), .val (.int (14 : Int32))] [(.int (0 : Int32)), (.int (14 : Int32))]))
  have hc2_1 : ¬ ((14 : Int32) < (0 : Int32)) := by decide
  refine Comes.st (fun t k => XS.icmpYes X0.here hx rfl (pc0 := 2) (pc' := 37) rfl (hb hby d24_2) rfl (flt hc2_1).2.1 (by decide) (by decide) k) ?_
  show Comes p e below _ (s₁.setTop (mkF m 37 #[.val (.int (0 : Int32)), .val (.int (14 : Int32))] []))
  exact Comes.ret0 X0 hx Bd.returns hlk (hb hby d24_37) e0 ⟨rfl, N0, rfl⟩ (by decide) (by decide)
def Q_min14 (Z : State)  (h0 : Heap) (n0 : Nat) (v_ : Option Value) (h : Heap) (L_ : List Loc) : Prop := (v_ = some (.int (14 : Int32))) ∧ (Fr n0 L_) ∧ (h = h0)
theorem min14 (l : Launch) (Z : State) (a0 : Array Value) (hw : ∀ d ∈ tables_1, d.before a0 Z = true) (ws : List Jvm.Cond)  (h0 : Heap) (n0 : Nat) (Z0 : n0 ≤ h0.size) :
    MetFree l (⟨"java/lang/Math", "min", "(II)I"⟩ : MethodName) (head1 (Jvm.Cond.code (⟨"java/lang/Math", "min", "(II)I"⟩ : MethodName) jdk_29_method_69_code 2 (some .int) :: ws) (Rm 0 0 0 0)) (fun a_ U_ => a_ = #[(.int (16 : Int32)), (.int (14 : Int32))] ∧ Z.Warmed39 U_.vm ∧ U_.heap = h0) (fun _ _ _ _ _ => True) (fun _ U_ o_ V_ => ∃ v_ L_, o_ = .returned v_ ∧ Q_min14 Z  h0 n0 v_ V_.heap L_ ∧ FrameEnd U_ o_ V_ L_ (Rm 0 0 0 0).cells (Rm 0 0 0 0).slots) := by
  refine MetFree.of_bodySF pn_25 hisR ?_
  intro p e s m args below meth c s₁ Bd hml0 hP hK
  obtain ⟨rfl, hZ, hh⟩ := hP
  have hx := Bd.exec
  have hby := Bd.bytes
  have hml : c.maxLocals = 2 := hml0
  have hown : s.vm.findClass "java/lang/Math" = some m.cls := findClass_of_methodNamed Bd.named
  have hnm := (name_of_methodNamed Bd.named Bd.method).1
  have hlk : meth.locks = false := Bd.notSynchronized
  have X0 : Stand p l e (Rm 0 0 0 0) s m #[(.int (16 : Int32)), (.int (14 : Int32))] below meth c s₁ [] 0 0 := Stand.of_body Bd
  have e0 : s₁.heap = h0 := by rw [← hh, Bd.state]; rfl
  have N0 := Fr.nil n0
  refine Comes.out (Q := Q_min14 Z  h0 n0) (kc := (Rm 0 0 0 0).cells) (ks := (Rm 0 0 0 0).slots) ?_
  refine Comes.cast (ef_min14 m ) ?_
  show Comes p e below _ (s₁.setTop (mkF m 0 #[.val (.int (16 : Int32)), .val (.int (14 : Int32))] []))
  refine Comes.st (fun t k => XS.iloadN X0.here hx rfl (hb hby d25_0) rfl (XS.iloadN X0.here hx rfl (hb hby d25_1) rfl k)) ?_
  show Comes p e below _ (s₁.setTop (mkF m 2 #[.val (.int (16 : Int32)), .val (.int (14 : Int32))] [(.int (14 : Int32)), (.int (16 : Int32))]))
  have hc2_1 : (14 : Int32) < (16 : Int32) := by decide
  refine Comes.st (fun t k => XS.icmpYes X0.here hx rfl (pc0 := 2) (pc' := 9) rfl (hb hby d25_2) rfl (tlt hc2_1).2.2.1 (by decide) (by decide) (XS.iloadN X0.here hx rfl (hb hby d25_9) rfl k)) ?_
  show Comes p e below _ (s₁.setTop (mkF m 10 #[.val (.int (16 : Int32)), .val (.int (14 : Int32))] [(.int (14 : Int32))]))
  exact Comes.retV X0 hx Bd.returns rfl (Or.inl ⟨rfl, Or.inl rfl, _, rfl⟩) hlk (hb hby d25_10) e0 ⟨rfl, N0, rfl⟩ (by decide) (by decide)
def Q_crb14 (Z : State) (vb : Nat) (kb : ClassId) (wl : List Value) (h0 : Heap) (n0 : Nat) (v_ : Option Value) (h : Heap) (L_ : List Loc) : Prop := ∃ (r : Nat), (v_ = some (.ref r)) ∧ (Fr n0 L_) ∧ (Keep h0 h []) ∧ (Exa Z h r "[B")
theorem crb14 (l : Launch) (Z : State) (a0 : Array Value) (hw : ∀ d ∈ tables_1, d.before a0 Z = true) (ws : List Jvm.Cond) (vb : Nat) (kb : ClassId) (wl : List Value) (h0 : Heap) (n0 : Nat) (Z0 : n0 ≤ h0.size) (G0 : Arv Z h0 vb kb .byte (16 : Int32) wl (.int (0 : Int32))) (G1 : Exa Z h0 vb "[B") (G2 : wl.length = 16) :
    MetFree l (⟨"java/util/Arrays", "copyOfRangeByte", "([BII)[B"⟩ : MethodName) (head1 (Jvm.Cond.code (⟨"java/util/Arrays", "copyOfRangeByte", "([BII)[B"⟩ : MethodName) jdk_65_method_133_code 5 (some (.array .byte)) :: ws) (Rm 1 1 14 27)) (fun a_ U_ => a_ = #[(.ref vb), (.int (0 : Int32)), (.int (14 : Int32))] ∧ Z.Warmed39 U_.vm ∧ U_.heap = h0) (fun _ _ _ _ _ => True) (fun _ U_ o_ V_ => ∃ v_ L_, o_ = .returned v_ ∧ Q_crb14 Z vb kb wl h0 n0 v_ V_.heap L_ ∧ FrameEnd U_ o_ V_ L_ (Rm 1 1 14 27).cells (Rm 1 1 14 27).slots) := by
  refine MetFree.of_bodySF (plainFor_of_name pn_23) hisR ?_
  intro p e s m args below meth c s₁ Bd hml0 hP hK
  obtain ⟨rfl, hZ, hh⟩ := hP
  have hx := Bd.exec
  have hby := Bd.bytes
  have hml : c.maxLocals = 5 := hml0
  have hown : s.vm.findClass "java/util/Arrays" = some m.cls := findClass_of_methodNamed Bd.named
  have hnm := (name_of_methodNamed Bd.named Bd.method).1
  have hlk : meth.locks = false := Bd.notSynchronized
  have X0 : Stand p l e (Rm 1 1 14 27) s m #[(.ref vb), (.int (0 : Int32)), (.int (14 : Int32))] below meth c s₁ [] 0 0 := Stand.of_body Bd
  have e0 : s₁.heap = h0 := by rw [← hh, Bd.state]; rfl
  have N0 := Fr.nil n0
  have K0 := Keep.refl h0 []
  refine Comes.out (Q := Q_crb14 Z vb kb wl h0 n0) (kc := (Rm 1 1 14 27).cells) (ks := (Rm 1 1 14 27).slots) ?_
  refine Comes.cast (ef_crb14 m vb) ?_
  have lt_vb : vb < h0.size := G0.lt
  show Comes p e below _ (s₁.setTop (mkF m 0 #[.val (.ref vb), .val (.int (0 : Int32)), .val (.int (14 : Int32)), .unset, .unset] []))
  refine Comes.st (fun t k => XS.iloadN X0.here hx rfl (hb hby d23_0) rfl (XS.iloadN X0.here hx rfl (hb hby d23_1) rfl k)) ?_
  show Comes p e below _ (s₁.setTop (mkF m 2 #[.val (.ref vb), .val (.int (0 : Int32)), .val (.int (14 : Int32)), .unset, .unset] [(.int (14 : Int32)), (.int (0 : Int32))]))
  obtain ⟨_, _, ⟨T1, L1, k1, n1⟩, -, X1, ⟨Lc1, hQ1, l1, y1, z1⟩, st1⟩ := Jvm.LawKit.callS X0 hx (y := (⟨"java/util/Arrays", "checkLength", "(II)V"⟩ : MethodName)) hown (mvT hZ (W hw 138)) (mvT hZ (W hw 139)) (mvT hZ (W hw 133)) (mvT hZ (W hw 140)) (by decide) (backOf (W := 0) (cl14 l Z a0 hw []  h0 n0 (by omega)  ) hZ (W hw 140) (W hw 133) (by decide) (by decide)) (g := (mkF m 2 #[.val (.ref vb), .val (.int (0 : Int32)), .val (.int (14 : Int32)), .unset, .unset] [(.int (14 : Int32)), (.int (0 : Int32))])) rfl (by rw [hml]; rfl) (argsL := [(.int (0 : Int32)), (.int (14 : Int32))]) (rest := []) (lenOf pd_7 rfl) rfl (by show 2 * 0 + _ ≤ _; exact Nat.le_of_eq rfl) (hb hby d23_2) (fun _ _ => ⟨rfl, e0, (by decide : 0 + 0 ≤ _), (by decide : 0 + 0 ≤ _)⟩)
  dsimp only [Pt.U, Pt.locs, Pt.cells, Pt.slots] at X1 l1 y1 z1 st1 hQ1
  subst l1 y1 z1
  obtain ⟨rfl, Nq1, hs1⟩ := hQ1
  have N1 := Fr.app N0 Nq1
  refine Comes.st st1 ?_
  show Comes p e below _ (T1.setTop (mkF m 5 #[.val (.ref vb), .val (.int (0 : Int32)), .val (.int (14 : Int32)), .unset, .unset] []))
  refine Comes.st (fun t k => XS.iloadN X1.here hx rfl (hb hby d23_5) rfl (XS.iloadN X1.here hx rfl (hb hby d23_6) rfl (XS.isub X1.here hx rfl (hb hby d23_7) rfl k))) ?_
  show Comes p e below _ (T1.setTop (mkF m 8 #[.val (.ref vb), .val (.int (0 : Int32)), .val (.int (14 : Int32)), .unset, .unset] [(.int ((14 : Int32) - (0 : Int32)))]))
  rw [show ((14 : Int32) - (0 : Int32)) = (14 : Int32) from by decide]
  show Comes p e below _ (T1.setTop (mkF m 8 #[.val (.ref vb), .val (.int (0 : Int32)), .val (.int (14 : Int32)), .unset, .unset] [(.int (14 : Int32))]))
  refine Comes.st (fun t k => XS.istoreN X1.here hx rfl (hb hby d23_8) rfl (l' := #[.val (.ref vb), .val (.int (0 : Int32)), .val (.int (14 : Int32)), .val (.int (14 : Int32)), .unset]) rfl (XS.iloadN X1.here hx rfl (hb hby d23_9) rfl k)) ?_
  show Comes p e below _ (T1.setTop (mkF m 10 #[.val (.ref vb), .val (.int (0 : Int32)), .val (.int (14 : Int32)), .val (.int (14 : Int32)), .unset] [(.int (14 : Int32))]))
  obtain ⟨T2, h2, k2, X2, e2, E2, A2, Ex2, st2⟩ := newPE X1 hx hZ (W hw 14) hs1 (g := (mkF m 10 #[.val (.ref vb), .val (.int (0 : Int32)), .val (.int (14 : Int32)), .val (.int (14 : Int32)), .unset] [(.int (14 : Int32))])) rfl (hb hby d23_10) rfl (by decide) (cap := 14) (by decide) (by decide) (by decide) (by decide) (ad := "[B") (by decide)
  obtain ⟨b2, g2⟩ : ∃ z, z = h0.size := ⟨_, rfl⟩
  rw [← g2] at A2 Ex2 st2
  have z2 : h0.size ≤ h2.size := E2.1
  have lt2 : b2 < h2.size := A2.lt
  have V2 : Arv Z h2 b2 k2 .byte (14 : Int32) [(.int (0 : Int32)), (.int (0 : Int32)), (.int (0 : Int32)), (.int (0 : Int32)), (.int (0 : Int32)), (.int (0 : Int32)), (.int (0 : Int32)), (.int (0 : Int32)), (.int (0 : Int32)), (.int (0 : Int32)), (.int (0 : Int32)), (.int (0 : Int32)), (.int (0 : Int32)), (.int (0 : Int32))] (.int (0 : Int32)) := (Arv.new A2 (by decide)).pad (pad_rep [] (.int (0 : Int32)) 14)
  have K2 : Keep h0 h2 [] := K0.ext E2
  refine Comes.st st2 ?_
  show Comes p e below _ (T2.setTop (mkF m 12 #[.val (.ref vb), .val (.int (0 : Int32)), .val (.int (14 : Int32)), .val (.int (14 : Int32)), .unset] [(.ref b2)]))
  refine Comes.st (fun t k => XS.astore X2.here hx rfl (hb hby d23_12) rfl rfl (l' := #[.val (.ref vb), .val (.int (0 : Int32)), .val (.int (14 : Int32)), .val (.int (14 : Int32)), .val (.ref b2)]) rfl (XS.aloadN X2.here hx rfl (hb hby d23_14) rfl rfl (XS.iloadN X2.here hx rfl (hb hby d23_15) rfl (XS.aload X2.here hx rfl (hb hby d23_16) rfl rfl (XS.iconst X2.here hx rfl (hb hby d23_18) (XS.aloadN X2.here hx rfl (hb hby d23_19) rfl rfl k)))))) ?_
  show Comes p e below _ (T2.setTop (mkF m 20 #[.val (.ref vb), .val (.int (0 : Int32)), .val (.int (14 : Int32)), .val (.int (14 : Int32)), .val (.ref b2)] [(.ref vb), (.int (0 : Int32)), (.ref b2), (.int (0 : Int32)), (.ref vb)]))
  have F3 : Arv Z h2 vb kb .byte (16 : Int32) wl (.int (0 : Int32)) := (G0.ext E2)
  obtain ⟨cl4, Ar4, -, S4, Ng4, -, -⟩ := id F3
  refine Comes.st (fun t k => X2.arraylength hx (by rw [e2]; exact Ar4.1) (State.isArrayOf_alike hZ.alike Ar4.2.1) (g := (mkF m 20 #[.val (.ref vb), .val (.int (0 : Int32)), .val (.int (14 : Int32)), .val (.int (14 : Int32)), .val (.ref b2)] [(.ref vb), (.int (0 : Int32)), (.ref b2), (.int (0 : Int32)), (.ref vb)])) rfl rfl (hb hby d23_20) _ k) ?_
  rw [len_of S4 Ng4]
  show Comes p e below _ (T2.setTop (mkF m 21 #[.val (.ref vb), .val (.int (0 : Int32)), .val (.int (14 : Int32)), .val (.int (14 : Int32)), .val (.ref b2)] [(.int (16 : Int32)), (.int (0 : Int32)), (.ref b2), (.int (0 : Int32)), (.ref vb)]))
  refine Comes.st (fun t k => XS.iloadN X2.here hx rfl (hb hby d23_21) rfl (XS.isub X2.here hx rfl (hb hby d23_22) rfl k)) ?_
  show Comes p e below _ (T2.setTop (mkF m 23 #[.val (.ref vb), .val (.int (0 : Int32)), .val (.int (14 : Int32)), .val (.int (14 : Int32)), .val (.ref b2)] [(.int ((16 : Int32) - (0 : Int32))), (.int (0 : Int32)), (.ref b2), (.int (0 : Int32)), (.ref vb)]))
  rw [show ((16 : Int32) - (0 : Int32)) = (16 : Int32) from by decide]
  show Comes p e below _ (T2.setTop (mkF m 23 #[.val (.ref vb), .val (.int (0 : Int32)), .val (.int (14 : Int32)), .val (.int (14 : Int32)), .val (.ref b2)] [(.int (16 : Int32)), (.int (0 : Int32)), (.ref b2), (.int (0 : Int32)), (.ref vb)]))
  refine Comes.st (fun t k => XS.iloadN X2.here hx rfl (hb hby d23_23) rfl k) ?_
  show Comes p e below _ (T2.setTop (mkF m 24 #[.val (.ref vb), .val (.int (0 : Int32)), .val (.int (14 : Int32)), .val (.int (14 : Int32)), .val (.ref b2)] [(.int (14 : Int32)), (.int (16 : Int32)), (.int (0 : Int32)), (.ref b2), (.int (0 : Int32)), (.ref vb)]))
  obtain ⟨_, _, ⟨T5, L5, k5, n5⟩, -, X5, ⟨Lc5, hQ5, l5, y5, z5⟩, st5⟩ := Jvm.LawKit.callS X2 hx (y := (⟨"java/lang/Math", "min", "(II)I"⟩ : MethodName)) hown (mvT hZ (W hw 141)) (mvT hZ (W hw 142)) (mvT hZ (W hw 143)) (mvT hZ (W hw 144)) (by decide) (backOf (W := 4) (min14 l Z a0 hw []  h2 n0 (by omega)  ) hZ (W hw 144) (W hw 143) (by decide) (by decide)) (g := (mkF m 24 #[.val (.ref vb), .val (.int (0 : Int32)), .val (.int (14 : Int32)), .val (.int (14 : Int32)), .val (.ref b2)] [(.int (14 : Int32)), (.int (16 : Int32)), (.int (0 : Int32)), (.ref b2), (.int (0 : Int32)), (.ref vb)])) rfl (by rw [hml]; rfl) (argsL := [(.int (16 : Int32)), (.int (14 : Int32))]) (rest := [(.int (0 : Int32)), (.ref b2), (.int (0 : Int32)), (.ref vb)]) (lenOf pd_8 rfl) rfl (by show 2 * 0 + _ ≤ _; exact Nat.le_of_eq rfl) (hb hby d23_24) (fun _ _ => ⟨rfl, e2, (by decide : 1 + 0 ≤ _), (by decide : 14 + 0 ≤ _)⟩)
  dsimp only [Pt.U, Pt.locs, Pt.cells, Pt.slots] at X5 l5 y5 z5 st5 hQ5
  subst l5 y5 z5
  obtain ⟨rfl, Nq5, hs5⟩ := hQ5
  have N5 := Fr.app N1 Nq5
  refine Comes.st st5 ?_
  show Comes p e below _ (T5.setTop (mkF m 27 #[.val (.ref vb), .val (.int (0 : Int32)), .val (.int (14 : Int32)), .val (.int (14 : Int32)), .val (.ref b2)] [(.int (14 : Int32)), (.int (0 : Int32)), (.ref b2), (.int (0 : Int32)), (.ref vb)]))
  obtain ⟨T6, h6, L6, X6, e6, N6, Kq6, V6, st6⟩ := cpA X5 hx hZ hown (W hw 145) (W hw 97) (W hw 95) (W hw 96) hs5 F3 V2 (Or.inl ⟨rfl, rfl⟩) (by decide) (by decide) (by decide) (by decide) (by decide) rfl (by decide) N5 (by omega) (g := (mkF m 27 #[.val (.ref vb), .val (.int (0 : Int32)), .val (.int (14 : Int32)), .val (.int (14 : Int32)), .val (.ref b2)] [(.int (14 : Int32)), (.int (0 : Int32)), (.ref b2), (.int (0 : Int32)), (.ref vb)])) rfl (by rw [hml]; rfl) (rest := []) rfl (hb hby d23_27) (by decide) (W := 0) (by show 2 * 0 + _ ≤ _; exact Nat.le_of_eq rfl) (by decide)
  have z6 : h2.size ≤ h6.size := Kq6.1
  have gz7 : h0.size ≤ b2 := by omega
  have K6 : Keep h0 h6 [] := K2.trans Kq6 (allS (Or.inr gz7) all0)
  obtain ⟨w6, V6', hl6⟩ : ∃ w_ : List Value, Arv Z h6 b2 k2 .byte (14 : Int32) w_ (.int (0 : Int32)) ∧ w_.length = 14 := ⟨_, V6, by simp [List.length_cons]⟩
  refine Comes.st st6 ?_
  show Comes p e below _ (T6.setTop (mkF m 30 #[.val (.ref vb), .val (.int (0 : Int32)), .val (.int (14 : Int32)), .val (.int (14 : Int32)), .val (.ref b2)] []))
  refine Comes.st (fun t k => XS.aload X6.here hx rfl (hb hby d23_30) rfl rfl k) ?_
  show Comes p e below _ (T6.setTop (mkF m 32 #[.val (.ref vb), .val (.int (0 : Int32)), .val (.int (14 : Int32)), .val (.int (14 : Int32)), .val (.ref b2)] [(.ref b2)]))
  have F8 : Exa Z h6 b2 "[B" := (Ex2.keep Kq6)
  exact Comes.retV X6 hx Bd.returns (narrow_ref rfl) (Or.inr (Or.inr (Or.inr (Or.inr ⟨rfl, rfl, rfl⟩)))) hlk (hb hby d23_32) e6 ⟨b2, rfl, N6, K6, F8⟩ (by decide) (by decide)
def Q_cr14 (Z : State) (vb : Nat) (kb : ClassId) (wl : List Value) (h0 : Heap) (n0 : Nat) (v_ : Option Value) (h : Heap) (L_ : List Loc) : Prop := ∃ (r : Nat), (v_ = some (.ref r)) ∧ (Fr n0 L_) ∧ (Keep h0 h []) ∧ (Exa Z h r "[B")
theorem cr14 (l : Launch) (Z : State) (a0 : Array Value) (hw : ∀ d ∈ tables_1, d.before a0 Z = true) (ws : List Jvm.Cond) (vb : Nat) (kb : ClassId) (wl : List Value) (h0 : Heap) (n0 : Nat) (Z0 : n0 ≤ h0.size) (G0 : Arv Z h0 vb kb .byte (16 : Int32) wl (.int (0 : Int32))) (G1 : Exa Z h0 vb "[B") (G2 : wl.length = 16) :
    MetFree l (⟨"java/util/Arrays", "copyOfRange", "([BII)[B"⟩ : MethodName) (head1 (Jvm.Cond.code (⟨"java/util/Arrays", "copyOfRange", "([BII)[B"⟩ : MethodName) jdk_65_method_132_code 3 (some (.array .byte)) :: ws) (Rm 2 1 14 43)) (fun a_ U_ => a_ = #[(.ref vb), (.int (0 : Int32)), (.int (14 : Int32))] ∧ Z.Warmed39 U_.vm ∧ U_.heap = h0) (fun _ _ _ _ _ => True) (fun _ U_ o_ V_ => ∃ v_ L_, o_ = .returned v_ ∧ Q_cr14 Z vb kb wl h0 n0 v_ V_.heap L_ ∧ FrameEnd U_ o_ V_ L_ (Rm 2 1 14 43).cells (Rm 2 1 14 43).slots) := by
  refine MetFree.of_bodySF (plainFor_of_name pn_22) hisR ?_
  intro p e s m args below meth c s₁ Bd hml0 hP hK
  obtain ⟨rfl, hZ, hh⟩ := hP
  have hx := Bd.exec
  have hby := Bd.bytes
  have hml : c.maxLocals = 3 := hml0
  have hown : s.vm.findClass "java/util/Arrays" = some m.cls := findClass_of_methodNamed Bd.named
  have hnm := (name_of_methodNamed Bd.named Bd.method).1
  have hlk : meth.locks = false := Bd.notSynchronized
  have X0 : Stand p l e (Rm 2 1 14 43) s m #[(.ref vb), (.int (0 : Int32)), (.int (14 : Int32))] below meth c s₁ [] 0 0 := Stand.of_body Bd
  have e0 : s₁.heap = h0 := by rw [← hh, Bd.state]; rfl
  have N0 := Fr.nil n0
  have K0 := Keep.refl h0 []
  refine Comes.out (Q := Q_cr14 Z vb kb wl h0 n0) (kc := (Rm 2 1 14 43).cells) (ks := (Rm 2 1 14 43).slots) ?_
  refine Comes.cast (ef_cr14 m vb) ?_
  have lt_vb : vb < h0.size := G0.lt
  show Comes p e below _ (s₁.setTop (mkF m 0 #[.val (.ref vb), .val (.int (0 : Int32)), .val (.int (14 : Int32))] []))
  refine Comes.st (fun t k => XS.iloadN X0.here hx rfl (hb hby d22_0) rfl k) ?_
  show Comes p e below _ (s₁.setTop (mkF m 1 #[.val (.ref vb), .val (.int (0 : Int32)), .val (.int (14 : Int32))] [(.int (0 : Int32))]))
  have hc1_1 : (0 : Int32) = (0 : Int32) := by decide
  refine Comes.st (fun t k => XS.ifNo X0.here hx rfl (hb hby d22_1) rfl ((if0 _ _).trans (teq hc1_1).2) (XS.iloadN X0.here hx rfl (hb hby d22_4) rfl (XS.aloadN X0.here hx rfl (hb hby d22_5) rfl rfl k))) ?_
  show Comes p e below _ (s₁.setTop (mkF m 6 #[.val (.ref vb), .val (.int (0 : Int32)), .val (.int (14 : Int32))] [(.ref vb), (.int (14 : Int32))]))
  obtain ⟨cl2, Ar2, -, S2, Ng2, -, -⟩ := id G0
  refine Comes.st (fun t k => X0.arraylength hx (by rw [e0]; exact Ar2.1) (State.isArrayOf_alike hZ.alike Ar2.2.1) (g := (mkF m 6 #[.val (.ref vb), .val (.int (0 : Int32)), .val (.int (14 : Int32))] [(.ref vb), (.int (14 : Int32))])) rfl rfl (hb hby d22_6) _ k) ?_
  rw [len_of S2 Ng2]
  show Comes p e below _ (s₁.setTop (mkF m 7 #[.val (.ref vb), .val (.int (0 : Int32)), .val (.int (14 : Int32))] [(.int (16 : Int32)), (.int (14 : Int32))]))
  have hc7_3 : ¬ ((14 : Int32) = (16 : Int32)) := by decide
  refine Comes.st (fun t k => XS.icmpNo X0.here hx rfl (hb hby d22_7) rfl (feq hc7_3).1 (XS.aloadN X0.here hx rfl (hb hby d22_10) rfl rfl (XS.iloadN X0.here hx rfl (hb hby d22_11) rfl (XS.iloadN X0.here hx rfl (hb hby d22_12) rfl k)))) ?_
  show Comes p e below _ (s₁.setTop (mkF m 13 #[.val (.ref vb), .val (.int (0 : Int32)), .val (.int (14 : Int32))] [(.int (14 : Int32)), (.int (0 : Int32)), (.ref vb)]))
  obtain ⟨_, _, ⟨T4, L4, k4, n4⟩, -, X4, ⟨Lc4, hQ4, l4, y4, z4⟩, st4⟩ := Jvm.LawKit.callS X0 hx (y := (⟨"java/util/Arrays", "copyOfRangeByte", "([BII)[B"⟩ : MethodName)) hown (mvT hZ (W hw 135)) (mvT hZ (W hw 136)) (mvT hZ (W hw 133)) (mvT hZ (W hw 137)) (by decide) (backOf (W := 0) (crb14 l Z a0 hw [] vb kb wl h0 n0 (by omega)  G0 G1 (by first | assumption | rfl)) hZ (W hw 137) (W hw 133) (by decide) (by decide)) (g := (mkF m 13 #[.val (.ref vb), .val (.int (0 : Int32)), .val (.int (14 : Int32))] [(.int (14 : Int32)), (.int (0 : Int32)), (.ref vb)])) rfl (by rw [hml]; rfl) (argsL := [(.ref vb), (.int (0 : Int32)), (.int (14 : Int32))]) (rest := []) (lenOf pd_9 rfl) rfl (by show 2 * 0 + _ ≤ _; exact Nat.le_of_eq rfl) (hb hby d22_13) (fun _ _ => ⟨rfl, e0, (by decide : 0 + 1 ≤ _), (by decide : 0 + 14 ≤ _)⟩)
  dsimp only [Pt.U, Pt.locs, Pt.cells, Pt.slots] at X4 l4 y4 z4 st4 hQ4
  subst l4 y4 z4
  obtain ⟨o5, rfl, Nq4, Kq4, P4_0⟩ := hQ4
  have N4 := Fr.app N0 Nq4
  have z4k : h0.size ≤ T4.heap.size := Kq4.1
  have K4 : Keep h0 T4.heap [] := K0.trans Kq4 all0
  refine Comes.st st4 ?_
  have lt_6 : o5 < T4.heap.size := P4_0.lt
  show Comes p e below _ (T4.setTop (mkF m 16 #[.val (.ref vb), .val (.int (0 : Int32)), .val (.int (14 : Int32))] [(.ref o5)]))
  exact Comes.retV X4 hx Bd.returns (narrow_ref rfl) (Or.inr (Or.inr (Or.inr (Or.inr ⟨rfl, rfl, rfl⟩)))) hlk (hb hby d22_16) rfl ⟨o5, rfl, N4, K4, P4_0⟩ (by decide) (by decide)
def Q_cl15 (Z : State)  (h0 : Heap) (n0 : Nat) (v_ : Option Value) (h : Heap) (L_ : List Loc) : Prop := (v_ = none) ∧ (Fr n0 L_) ∧ (h = h0)
theorem cl15 (l : Launch) (Z : State) (a0 : Array Value) (hw : ∀ d ∈ tables_1, d.before a0 Z = true) (ws : List Jvm.Cond)  (h0 : Heap) (n0 : Nat) (Z0 : n0 ≤ h0.size) :
    MetFree l (⟨"java/util/Arrays", "checkLength", "(II)V"⟩ : MethodName) (head1 (Jvm.Cond.code (⟨"java/util/Arrays", "checkLength", "(II)V"⟩ : MethodName) jdk_65_method_131_code 2 none :: ws) (Rm 0 0 0 0)) (fun a_ U_ => a_ = #[(.int (0 : Int32)), (.int (15 : Int32))] ∧ Z.Warmed39 U_.vm ∧ U_.heap = h0) (fun _ _ _ _ _ => True) (fun _ U_ o_ V_ => ∃ v_ L_, o_ = .returned v_ ∧ Q_cl15 Z  h0 n0 v_ V_.heap L_ ∧ FrameEnd U_ o_ V_ L_ (Rm 0 0 0 0).cells (Rm 0 0 0 0).slots) := by
  refine MetFree.of_bodySF (plainFor_of_name pn_24) hisR ?_
  intro p e s m args below meth c s₁ Bd hml0 hP hK
  obtain ⟨rfl, hZ, hh⟩ := hP
  have hx := Bd.exec
  have hby := Bd.bytes
  have hml : c.maxLocals = 2 := hml0
  have hown : s.vm.findClass "java/util/Arrays" = some m.cls := findClass_of_methodNamed Bd.named
  have hnm := (name_of_methodNamed Bd.named Bd.method).1
  have hlk : meth.locks = false := Bd.notSynchronized
  have X0 : Stand p l e (Rm 0 0 0 0) s m #[(.int (0 : Int32)), (.int (15 : Int32))] below meth c s₁ [] 0 0 := Stand.of_body Bd
  have e0 : s₁.heap = h0 := by rw [← hh, Bd.state]; rfl
  have N0 := Fr.nil n0
  refine Comes.out (Q := Q_cl15 Z  h0 n0) (kc := (Rm 0 0 0 0).cells) (ks := (Rm 0 0 0 0).slots) ?_
  refine Comes.cast (ef_cl15 m ) ?_
  show Comes p e below _ (s₁.setTop (mkF m 0 #[.val (.int (0 : Int32)), .val (.int (15 : Int32))] []))
  refine Comes.st (fun t k => XS.iloadN X0.here hx rfl (hb hby d24_0) rfl (XS.iloadN X0.here hx rfl (hb hby d24_1) rfl k)) ?_
  show Comes p e below _ (s₁.setTop (mkF m 2 #[.val (.int (0 : Int32)), .val (.int (15 : Int32))] [(.int (0 : Int32)), (.int (15 : Int32))]))
  have hc2_1 : ¬ ((15 : Int32) < (0 : Int32)) := by decide
  refine Comes.st (fun t k => XS.icmpYes X0.here hx rfl (pc0 := 2) (pc' := 37) rfl (hb hby d24_2) rfl (flt hc2_1).2.1 (by decide) (by decide) k) ?_
  show Comes p e below _ (s₁.setTop (mkF m 37 #[.val (.int (0 : Int32)), .val (.int (15 : Int32))] []))
  exact Comes.ret0 X0 hx Bd.returns hlk (hb hby d24_37) e0 ⟨rfl, N0, rfl⟩ (by decide) (by decide)
def Q_min15 (Z : State)  (h0 : Heap) (n0 : Nat) (v_ : Option Value) (h : Heap) (L_ : List Loc) : Prop := (v_ = some (.int (15 : Int32))) ∧ (Fr n0 L_) ∧ (h = h0)
theorem min15 (l : Launch) (Z : State) (a0 : Array Value) (hw : ∀ d ∈ tables_1, d.before a0 Z = true) (ws : List Jvm.Cond)  (h0 : Heap) (n0 : Nat) (Z0 : n0 ≤ h0.size) :
    MetFree l (⟨"java/lang/Math", "min", "(II)I"⟩ : MethodName) (head1 (Jvm.Cond.code (⟨"java/lang/Math", "min", "(II)I"⟩ : MethodName) jdk_29_method_69_code 2 (some .int) :: ws) (Rm 0 0 0 0)) (fun a_ U_ => a_ = #[(.int (16 : Int32)), (.int (15 : Int32))] ∧ Z.Warmed39 U_.vm ∧ U_.heap = h0) (fun _ _ _ _ _ => True) (fun _ U_ o_ V_ => ∃ v_ L_, o_ = .returned v_ ∧ Q_min15 Z  h0 n0 v_ V_.heap L_ ∧ FrameEnd U_ o_ V_ L_ (Rm 0 0 0 0).cells (Rm 0 0 0 0).slots) := by
  refine MetFree.of_bodySF pn_25 hisR ?_
  intro p e s m args below meth c s₁ Bd hml0 hP hK
  obtain ⟨rfl, hZ, hh⟩ := hP
  have hx := Bd.exec
  have hby := Bd.bytes
  have hml : c.maxLocals = 2 := hml0
  have hown : s.vm.findClass "java/lang/Math" = some m.cls := findClass_of_methodNamed Bd.named
  have hnm := (name_of_methodNamed Bd.named Bd.method).1
  have hlk : meth.locks = false := Bd.notSynchronized
  have X0 : Stand p l e (Rm 0 0 0 0) s m #[(.int (16 : Int32)), (.int (15 : Int32))] below meth c s₁ [] 0 0 := Stand.of_body Bd
  have e0 : s₁.heap = h0 := by rw [← hh, Bd.state]; rfl
  have N0 := Fr.nil n0
  refine Comes.out (Q := Q_min15 Z  h0 n0) (kc := (Rm 0 0 0 0).cells) (ks := (Rm 0 0 0 0).slots) ?_
  refine Comes.cast (ef_min15 m ) ?_
  show Comes p e below _ (s₁.setTop (mkF m 0 #[.val (.int (16 : Int32)), .val (.int (15 : Int32))] []))
  refine Comes.st (fun t k => XS.iloadN X0.here hx rfl (hb hby d25_0) rfl (XS.iloadN X0.here hx rfl (hb hby d25_1) rfl k)) ?_
  show Comes p e below _ (s₁.setTop (mkF m 2 #[.val (.int (16 : Int32)), .val (.int (15 : Int32))] [(.int (15 : Int32)), (.int (16 : Int32))]))
  have hc2_1 : (15 : Int32) < (16 : Int32) := by decide
  refine Comes.st (fun t k => XS.icmpYes X0.here hx rfl (pc0 := 2) (pc' := 9) rfl (hb hby d25_2) rfl (tlt hc2_1).2.2.1 (by decide) (by decide) (XS.iloadN X0.here hx rfl (hb hby d25_9) rfl k)) ?_
  show Comes p e below _ (s₁.setTop (mkF m 10 #[.val (.int (16 : Int32)), .val (.int (15 : Int32))] [(.int (15 : Int32))]))
  exact Comes.retV X0 hx Bd.returns rfl (Or.inl ⟨rfl, Or.inl rfl, _, rfl⟩) hlk (hb hby d25_10) e0 ⟨rfl, N0, rfl⟩ (by decide) (by decide)
def Q_crb15 (Z : State) (vb : Nat) (kb : ClassId) (wl : List Value) (h0 : Heap) (n0 : Nat) (v_ : Option Value) (h : Heap) (L_ : List Loc) : Prop := ∃ (r : Nat), (v_ = some (.ref r)) ∧ (Fr n0 L_) ∧ (Keep h0 h []) ∧ (Exa Z h r "[B")
theorem crb15 (l : Launch) (Z : State) (a0 : Array Value) (hw : ∀ d ∈ tables_1, d.before a0 Z = true) (ws : List Jvm.Cond) (vb : Nat) (kb : ClassId) (wl : List Value) (h0 : Heap) (n0 : Nat) (Z0 : n0 ≤ h0.size) (G0 : Arv Z h0 vb kb .byte (16 : Int32) wl (.int (0 : Int32))) (G1 : Exa Z h0 vb "[B") (G2 : wl.length = 16) :
    MetFree l (⟨"java/util/Arrays", "copyOfRangeByte", "([BII)[B"⟩ : MethodName) (head1 (Jvm.Cond.code (⟨"java/util/Arrays", "copyOfRangeByte", "([BII)[B"⟩ : MethodName) jdk_65_method_133_code 5 (some (.array .byte)) :: ws) (Rm 1 1 15 27)) (fun a_ U_ => a_ = #[(.ref vb), (.int (0 : Int32)), (.int (15 : Int32))] ∧ Z.Warmed39 U_.vm ∧ U_.heap = h0) (fun _ _ _ _ _ => True) (fun _ U_ o_ V_ => ∃ v_ L_, o_ = .returned v_ ∧ Q_crb15 Z vb kb wl h0 n0 v_ V_.heap L_ ∧ FrameEnd U_ o_ V_ L_ (Rm 1 1 15 27).cells (Rm 1 1 15 27).slots) := by
  refine MetFree.of_bodySF (plainFor_of_name pn_23) hisR ?_
  intro p e s m args below meth c s₁ Bd hml0 hP hK
  obtain ⟨rfl, hZ, hh⟩ := hP
  have hx := Bd.exec
  have hby := Bd.bytes
  have hml : c.maxLocals = 5 := hml0
  have hown : s.vm.findClass "java/util/Arrays" = some m.cls := findClass_of_methodNamed Bd.named
  have hnm := (name_of_methodNamed Bd.named Bd.method).1
  have hlk : meth.locks = false := Bd.notSynchronized
  have X0 : Stand p l e (Rm 1 1 15 27) s m #[(.ref vb), (.int (0 : Int32)), (.int (15 : Int32))] below meth c s₁ [] 0 0 := Stand.of_body Bd
  have e0 : s₁.heap = h0 := by rw [← hh, Bd.state]; rfl
  have N0 := Fr.nil n0
  have K0 := Keep.refl h0 []
  refine Comes.out (Q := Q_crb15 Z vb kb wl h0 n0) (kc := (Rm 1 1 15 27).cells) (ks := (Rm 1 1 15 27).slots) ?_
  refine Comes.cast (ef_crb15 m vb) ?_
  have lt_vb : vb < h0.size := G0.lt
  show Comes p e below _ (s₁.setTop (mkF m 0 #[.val (.ref vb), .val (.int (0 : Int32)), .val (.int (15 : Int32)), .unset, .unset] []))
  refine Comes.st (fun t k => XS.iloadN X0.here hx rfl (hb hby d23_0) rfl (XS.iloadN X0.here hx rfl (hb hby d23_1) rfl k)) ?_
  show Comes p e below _ (s₁.setTop (mkF m 2 #[.val (.ref vb), .val (.int (0 : Int32)), .val (.int (15 : Int32)), .unset, .unset] [(.int (15 : Int32)), (.int (0 : Int32))]))
  obtain ⟨_, _, ⟨T1, L1, k1, n1⟩, -, X1, ⟨Lc1, hQ1, l1, y1, z1⟩, st1⟩ := Jvm.LawKit.callS X0 hx (y := (⟨"java/util/Arrays", "checkLength", "(II)V"⟩ : MethodName)) hown (mvT hZ (W hw 138)) (mvT hZ (W hw 139)) (mvT hZ (W hw 133)) (mvT hZ (W hw 140)) (by decide) (backOf (W := 0) (cl15 l Z a0 hw []  h0 n0 (by omega)  ) hZ (W hw 140) (W hw 133) (by decide) (by decide)) (g := (mkF m 2 #[.val (.ref vb), .val (.int (0 : Int32)), .val (.int (15 : Int32)), .unset, .unset] [(.int (15 : Int32)), (.int (0 : Int32))])) rfl (by rw [hml]; rfl) (argsL := [(.int (0 : Int32)), (.int (15 : Int32))]) (rest := []) (lenOf pd_7 rfl) rfl (by show 2 * 0 + _ ≤ _; exact Nat.le_of_eq rfl) (hb hby d23_2) (fun _ _ => ⟨rfl, e0, (by decide : 0 + 0 ≤ _), (by decide : 0 + 0 ≤ _)⟩)
  dsimp only [Pt.U, Pt.locs, Pt.cells, Pt.slots] at X1 l1 y1 z1 st1 hQ1
  subst l1 y1 z1
  obtain ⟨rfl, Nq1, hs1⟩ := hQ1
  have N1 := Fr.app N0 Nq1
  refine Comes.st st1 ?_
  show Comes p e below _ (T1.setTop (mkF m 5 #[.val (.ref vb), .val (.int (0 : Int32)), .val (.int (15 : Int32)), .unset, .unset] []))
  refine Comes.st (fun t k => XS.iloadN X1.here hx rfl (hb hby d23_5) rfl (XS.iloadN X1.here hx rfl (hb hby d23_6) rfl (XS.isub X1.here hx rfl (hb hby d23_7) rfl k))) ?_
  show Comes p e below _ (T1.setTop (mkF m 8 #[.val (.ref vb), .val (.int (0 : Int32)), .val (.int (15 : Int32)), .unset, .unset] [(.int ((15 : Int32) - (0 : Int32)))]))
  rw [show ((15 : Int32) - (0 : Int32)) = (15 : Int32) from by decide]
  show Comes p e below _ (T1.setTop (mkF m 8 #[.val (.ref vb), .val (.int (0 : Int32)), .val (.int (15 : Int32)), .unset, .unset] [(.int (15 : Int32))]))
  refine Comes.st (fun t k => XS.istoreN X1.here hx rfl (hb hby d23_8) rfl (l' := #[.val (.ref vb), .val (.int (0 : Int32)), .val (.int (15 : Int32)), .val (.int (15 : Int32)), .unset]) rfl (XS.iloadN X1.here hx rfl (hb hby d23_9) rfl k)) ?_
  show Comes p e below _ (T1.setTop (mkF m 10 #[.val (.ref vb), .val (.int (0 : Int32)), .val (.int (15 : Int32)), .val (.int (15 : Int32)), .unset] [(.int (15 : Int32))]))
  obtain ⟨T2, h2, k2, X2, e2, E2, A2, Ex2, st2⟩ := newPE X1 hx hZ (W hw 14) hs1 (g := (mkF m 10 #[.val (.ref vb), .val (.int (0 : Int32)), .val (.int (15 : Int32)), .val (.int (15 : Int32)), .unset] [(.int (15 : Int32))])) rfl (hb hby d23_10) rfl (by decide) (cap := 15) (by decide) (by decide) (by decide) (by decide) (ad := "[B") (by decide)
  obtain ⟨b2, g2⟩ : ∃ z, z = h0.size := ⟨_, rfl⟩
  rw [← g2] at A2 Ex2 st2
  have z2 : h0.size ≤ h2.size := E2.1
  have lt2 : b2 < h2.size := A2.lt
  have V2 : Arv Z h2 b2 k2 .byte (15 : Int32) [(.int (0 : Int32)), (.int (0 : Int32)), (.int (0 : Int32)), (.int (0 : Int32)), (.int (0 : Int32)), (.int (0 : Int32)), (.int (0 : Int32)), (.int (0 : Int32)), (.int (0 : Int32)), (.int (0 : Int32)), (.int (0 : Int32)), (.int (0 : Int32)), (.int (0 : Int32)), (.int (0 : Int32)), (.int (0 : Int32))] (.int (0 : Int32)) := (Arv.new A2 (by decide)).pad (pad_rep [] (.int (0 : Int32)) 15)
  have K2 : Keep h0 h2 [] := K0.ext E2
  refine Comes.st st2 ?_
  show Comes p e below _ (T2.setTop (mkF m 12 #[.val (.ref vb), .val (.int (0 : Int32)), .val (.int (15 : Int32)), .val (.int (15 : Int32)), .unset] [(.ref b2)]))
  refine Comes.st (fun t k => XS.astore X2.here hx rfl (hb hby d23_12) rfl rfl (l' := #[.val (.ref vb), .val (.int (0 : Int32)), .val (.int (15 : Int32)), .val (.int (15 : Int32)), .val (.ref b2)]) rfl (XS.aloadN X2.here hx rfl (hb hby d23_14) rfl rfl (XS.iloadN X2.here hx rfl (hb hby d23_15) rfl (XS.aload X2.here hx rfl (hb hby d23_16) rfl rfl (XS.iconst X2.here hx rfl (hb hby d23_18) (XS.aloadN X2.here hx rfl (hb hby d23_19) rfl rfl k)))))) ?_
  show Comes p e below _ (T2.setTop (mkF m 20 #[.val (.ref vb), .val (.int (0 : Int32)), .val (.int (15 : Int32)), .val (.int (15 : Int32)), .val (.ref b2)] [(.ref vb), (.int (0 : Int32)), (.ref b2), (.int (0 : Int32)), (.ref vb)]))
  have F3 : Arv Z h2 vb kb .byte (16 : Int32) wl (.int (0 : Int32)) := (G0.ext E2)
  obtain ⟨cl4, Ar4, -, S4, Ng4, -, -⟩ := id F3
  refine Comes.st (fun t k => X2.arraylength hx (by rw [e2]; exact Ar4.1) (State.isArrayOf_alike hZ.alike Ar4.2.1) (g := (mkF m 20 #[.val (.ref vb), .val (.int (0 : Int32)), .val (.int (15 : Int32)), .val (.int (15 : Int32)), .val (.ref b2)] [(.ref vb), (.int (0 : Int32)), (.ref b2), (.int (0 : Int32)), (.ref vb)])) rfl rfl (hb hby d23_20) _ k) ?_
  rw [len_of S4 Ng4]
  show Comes p e below _ (T2.setTop (mkF m 21 #[.val (.ref vb), .val (.int (0 : Int32)), .val (.int (15 : Int32)), .val (.int (15 : Int32)), .val (.ref b2)] [(.int (16 : Int32)), (.int (0 : Int32)), (.ref b2), (.int (0 : Int32)), (.ref vb)]))
  refine Comes.st (fun t k => XS.iloadN X2.here hx rfl (hb hby d23_21) rfl (XS.isub X2.here hx rfl (hb hby d23_22) rfl k)) ?_
  show Comes p e below _ (T2.setTop (mkF m 23 #[.val (.ref vb), .val (.int (0 : Int32)), .val (.int (15 : Int32)), .val (.int (15 : Int32)), .val (.ref b2)] [(.int ((16 : Int32) - (0 : Int32))), (.int (0 : Int32)), (.ref b2), (.int (0 : Int32)), (.ref vb)]))
  rw [show ((16 : Int32) - (0 : Int32)) = (16 : Int32) from by decide]
  show Comes p e below _ (T2.setTop (mkF m 23 #[.val (.ref vb), .val (.int (0 : Int32)), .val (.int (15 : Int32)), .val (.int (15 : Int32)), .val (.ref b2)] [(.int (16 : Int32)), (.int (0 : Int32)), (.ref b2), (.int (0 : Int32)), (.ref vb)]))
  refine Comes.st (fun t k => XS.iloadN X2.here hx rfl (hb hby d23_23) rfl k) ?_
  show Comes p e below _ (T2.setTop (mkF m 24 #[.val (.ref vb), .val (.int (0 : Int32)), .val (.int (15 : Int32)), .val (.int (15 : Int32)), .val (.ref b2)] [(.int (15 : Int32)), (.int (16 : Int32)), (.int (0 : Int32)), (.ref b2), (.int (0 : Int32)), (.ref vb)]))
  obtain ⟨_, _, ⟨T5, L5, k5, n5⟩, -, X5, ⟨Lc5, hQ5, l5, y5, z5⟩, st5⟩ := Jvm.LawKit.callS X2 hx (y := (⟨"java/lang/Math", "min", "(II)I"⟩ : MethodName)) hown (mvT hZ (W hw 141)) (mvT hZ (W hw 142)) (mvT hZ (W hw 143)) (mvT hZ (W hw 144)) (by decide) (backOf (W := 4) (min15 l Z a0 hw []  h2 n0 (by omega)  ) hZ (W hw 144) (W hw 143) (by decide) (by decide)) (g := (mkF m 24 #[.val (.ref vb), .val (.int (0 : Int32)), .val (.int (15 : Int32)), .val (.int (15 : Int32)), .val (.ref b2)] [(.int (15 : Int32)), (.int (16 : Int32)), (.int (0 : Int32)), (.ref b2), (.int (0 : Int32)), (.ref vb)])) rfl (by rw [hml]; rfl) (argsL := [(.int (16 : Int32)), (.int (15 : Int32))]) (rest := [(.int (0 : Int32)), (.ref b2), (.int (0 : Int32)), (.ref vb)]) (lenOf pd_8 rfl) rfl (by show 2 * 0 + _ ≤ _; exact Nat.le_of_eq rfl) (hb hby d23_24) (fun _ _ => ⟨rfl, e2, (by decide : 1 + 0 ≤ _), (by decide : 15 + 0 ≤ _)⟩)
  dsimp only [Pt.U, Pt.locs, Pt.cells, Pt.slots] at X5 l5 y5 z5 st5 hQ5
  subst l5 y5 z5
  obtain ⟨rfl, Nq5, hs5⟩ := hQ5
  have N5 := Fr.app N1 Nq5
  refine Comes.st st5 ?_
  show Comes p e below _ (T5.setTop (mkF m 27 #[.val (.ref vb), .val (.int (0 : Int32)), .val (.int (15 : Int32)), .val (.int (15 : Int32)), .val (.ref b2)] [(.int (15 : Int32)), (.int (0 : Int32)), (.ref b2), (.int (0 : Int32)), (.ref vb)]))
  obtain ⟨T6, h6, L6, X6, e6, N6, Kq6, V6, st6⟩ := cpA X5 hx hZ hown (W hw 145) (W hw 97) (W hw 95) (W hw 96) hs5 F3 V2 (Or.inl ⟨rfl, rfl⟩) (by decide) (by decide) (by decide) (by decide) (by decide) rfl (by decide) N5 (by omega) (g := (mkF m 27 #[.val (.ref vb), .val (.int (0 : Int32)), .val (.int (15 : Int32)), .val (.int (15 : Int32)), .val (.ref b2)] [(.int (15 : Int32)), (.int (0 : Int32)), (.ref b2), (.int (0 : Int32)), (.ref vb)])) rfl (by rw [hml]; rfl) (rest := []) rfl (hb hby d23_27) (by decide) (W := 0) (by show 2 * 0 + _ ≤ _; exact Nat.le_of_eq rfl) (by decide)
  have z6 : h2.size ≤ h6.size := Kq6.1
  have gz7 : h0.size ≤ b2 := by omega
  have K6 : Keep h0 h6 [] := K2.trans Kq6 (allS (Or.inr gz7) all0)
  obtain ⟨w6, V6', hl6⟩ : ∃ w_ : List Value, Arv Z h6 b2 k2 .byte (15 : Int32) w_ (.int (0 : Int32)) ∧ w_.length = 15 := ⟨_, V6, by simp [List.length_cons]⟩
  refine Comes.st st6 ?_
  show Comes p e below _ (T6.setTop (mkF m 30 #[.val (.ref vb), .val (.int (0 : Int32)), .val (.int (15 : Int32)), .val (.int (15 : Int32)), .val (.ref b2)] []))
  refine Comes.st (fun t k => XS.aload X6.here hx rfl (hb hby d23_30) rfl rfl k) ?_
  show Comes p e below _ (T6.setTop (mkF m 32 #[.val (.ref vb), .val (.int (0 : Int32)), .val (.int (15 : Int32)), .val (.int (15 : Int32)), .val (.ref b2)] [(.ref b2)]))
  have F8 : Exa Z h6 b2 "[B" := (Ex2.keep Kq6)
  exact Comes.retV X6 hx Bd.returns (narrow_ref rfl) (Or.inr (Or.inr (Or.inr (Or.inr ⟨rfl, rfl, rfl⟩)))) hlk (hb hby d23_32) e6 ⟨b2, rfl, N6, K6, F8⟩ (by decide) (by decide)
def Q_cr15 (Z : State) (vb : Nat) (kb : ClassId) (wl : List Value) (h0 : Heap) (n0 : Nat) (v_ : Option Value) (h : Heap) (L_ : List Loc) : Prop := ∃ (r : Nat), (v_ = some (.ref r)) ∧ (Fr n0 L_) ∧ (Keep h0 h []) ∧ (Exa Z h r "[B")
theorem cr15 (l : Launch) (Z : State) (a0 : Array Value) (hw : ∀ d ∈ tables_1, d.before a0 Z = true) (ws : List Jvm.Cond) (vb : Nat) (kb : ClassId) (wl : List Value) (h0 : Heap) (n0 : Nat) (Z0 : n0 ≤ h0.size) (G0 : Arv Z h0 vb kb .byte (16 : Int32) wl (.int (0 : Int32))) (G1 : Exa Z h0 vb "[B") (G2 : wl.length = 16) :
    MetFree l (⟨"java/util/Arrays", "copyOfRange", "([BII)[B"⟩ : MethodName) (head1 (Jvm.Cond.code (⟨"java/util/Arrays", "copyOfRange", "([BII)[B"⟩ : MethodName) jdk_65_method_132_code 3 (some (.array .byte)) :: ws) (Rm 2 1 15 43)) (fun a_ U_ => a_ = #[(.ref vb), (.int (0 : Int32)), (.int (15 : Int32))] ∧ Z.Warmed39 U_.vm ∧ U_.heap = h0) (fun _ _ _ _ _ => True) (fun _ U_ o_ V_ => ∃ v_ L_, o_ = .returned v_ ∧ Q_cr15 Z vb kb wl h0 n0 v_ V_.heap L_ ∧ FrameEnd U_ o_ V_ L_ (Rm 2 1 15 43).cells (Rm 2 1 15 43).slots) := by
  refine MetFree.of_bodySF (plainFor_of_name pn_22) hisR ?_
  intro p e s m args below meth c s₁ Bd hml0 hP hK
  obtain ⟨rfl, hZ, hh⟩ := hP
  have hx := Bd.exec
  have hby := Bd.bytes
  have hml : c.maxLocals = 3 := hml0
  have hown : s.vm.findClass "java/util/Arrays" = some m.cls := findClass_of_methodNamed Bd.named
  have hnm := (name_of_methodNamed Bd.named Bd.method).1
  have hlk : meth.locks = false := Bd.notSynchronized
  have X0 : Stand p l e (Rm 2 1 15 43) s m #[(.ref vb), (.int (0 : Int32)), (.int (15 : Int32))] below meth c s₁ [] 0 0 := Stand.of_body Bd
  have e0 : s₁.heap = h0 := by rw [← hh, Bd.state]; rfl
  have N0 := Fr.nil n0
  have K0 := Keep.refl h0 []
  refine Comes.out (Q := Q_cr15 Z vb kb wl h0 n0) (kc := (Rm 2 1 15 43).cells) (ks := (Rm 2 1 15 43).slots) ?_
  refine Comes.cast (ef_cr15 m vb) ?_
  have lt_vb : vb < h0.size := G0.lt
  show Comes p e below _ (s₁.setTop (mkF m 0 #[.val (.ref vb), .val (.int (0 : Int32)), .val (.int (15 : Int32))] []))
  refine Comes.st (fun t k => XS.iloadN X0.here hx rfl (hb hby d22_0) rfl k) ?_
  show Comes p e below _ (s₁.setTop (mkF m 1 #[.val (.ref vb), .val (.int (0 : Int32)), .val (.int (15 : Int32))] [(.int (0 : Int32))]))
  have hc1_1 : (0 : Int32) = (0 : Int32) := by decide
  refine Comes.st (fun t k => XS.ifNo X0.here hx rfl (hb hby d22_1) rfl ((if0 _ _).trans (teq hc1_1).2) (XS.iloadN X0.here hx rfl (hb hby d22_4) rfl (XS.aloadN X0.here hx rfl (hb hby d22_5) rfl rfl k))) ?_
  show Comes p e below _ (s₁.setTop (mkF m 6 #[.val (.ref vb), .val (.int (0 : Int32)), .val (.int (15 : Int32))] [(.ref vb), (.int (15 : Int32))]))
  obtain ⟨cl2, Ar2, -, S2, Ng2, -, -⟩ := id G0
  refine Comes.st (fun t k => X0.arraylength hx (by rw [e0]; exact Ar2.1) (State.isArrayOf_alike hZ.alike Ar2.2.1) (g := (mkF m 6 #[.val (.ref vb), .val (.int (0 : Int32)), .val (.int (15 : Int32))] [(.ref vb), (.int (15 : Int32))])) rfl rfl (hb hby d22_6) _ k) ?_
  rw [len_of S2 Ng2]
  show Comes p e below _ (s₁.setTop (mkF m 7 #[.val (.ref vb), .val (.int (0 : Int32)), .val (.int (15 : Int32))] [(.int (16 : Int32)), (.int (15 : Int32))]))
  have hc7_3 : ¬ ((15 : Int32) = (16 : Int32)) := by decide
  refine Comes.st (fun t k => XS.icmpNo X0.here hx rfl (hb hby d22_7) rfl (feq hc7_3).1 (XS.aloadN X0.here hx rfl (hb hby d22_10) rfl rfl (XS.iloadN X0.here hx rfl (hb hby d22_11) rfl (XS.iloadN X0.here hx rfl (hb hby d22_12) rfl k)))) ?_
  show Comes p e below _ (s₁.setTop (mkF m 13 #[.val (.ref vb), .val (.int (0 : Int32)), .val (.int (15 : Int32))] [(.int (15 : Int32)), (.int (0 : Int32)), (.ref vb)]))
  obtain ⟨_, _, ⟨T4, L4, k4, n4⟩, -, X4, ⟨Lc4, hQ4, l4, y4, z4⟩, st4⟩ := Jvm.LawKit.callS X0 hx (y := (⟨"java/util/Arrays", "copyOfRangeByte", "([BII)[B"⟩ : MethodName)) hown (mvT hZ (W hw 135)) (mvT hZ (W hw 136)) (mvT hZ (W hw 133)) (mvT hZ (W hw 137)) (by decide) (backOf (W := 0) (crb15 l Z a0 hw [] vb kb wl h0 n0 (by omega)  G0 G1 (by first | assumption | rfl)) hZ (W hw 137) (W hw 133) (by decide) (by decide)) (g := (mkF m 13 #[.val (.ref vb), .val (.int (0 : Int32)), .val (.int (15 : Int32))] [(.int (15 : Int32)), (.int (0 : Int32)), (.ref vb)])) rfl (by rw [hml]; rfl) (argsL := [(.ref vb), (.int (0 : Int32)), (.int (15 : Int32))]) (rest := []) (lenOf pd_9 rfl) rfl (by show 2 * 0 + _ ≤ _; exact Nat.le_of_eq rfl) (hb hby d22_13) (fun _ _ => ⟨rfl, e0, (by decide : 0 + 1 ≤ _), (by decide : 0 + 15 ≤ _)⟩)
  dsimp only [Pt.U, Pt.locs, Pt.cells, Pt.slots] at X4 l4 y4 z4 st4 hQ4
  subst l4 y4 z4
  obtain ⟨o5, rfl, Nq4, Kq4, P4_0⟩ := hQ4
  have N4 := Fr.app N0 Nq4
  have z4k : h0.size ≤ T4.heap.size := Kq4.1
  have K4 : Keep h0 T4.heap [] := K0.trans Kq4 all0
  refine Comes.st st4 ?_
  have lt_6 : o5 < T4.heap.size := P4_0.lt
  show Comes p e below _ (T4.setTop (mkF m 16 #[.val (.ref vb), .val (.int (0 : Int32)), .val (.int (15 : Int32))] [(.ref o5)]))
  exact Comes.retV X4 hx Bd.returns (narrow_ref rfl) (Or.inr (Or.inr (Or.inr (Or.inr ⟨rfl, rfl, rfl⟩)))) hlk (hb hby d22_16) rfl ⟨o5, rfl, N4, K4, P4_0⟩ (by decide) (by decide)
def Q_cr16 (Z : State) (vb : Nat) (kb : ClassId) (wl : List Value) (h0 : Heap) (n0 : Nat) (v_ : Option Value) (h : Heap) (L_ : List Loc) : Prop := ∃ (r : Nat), (v_ = some (.ref r)) ∧ (Fr n0 L_) ∧ (Keep h0 h []) ∧ (Exa Z h r "[B")
theorem cr16 (l : Launch) (Z : State) (a0 : Array Value) (hw : ∀ d ∈ tables_1, d.before a0 Z = true) (ws : List Jvm.Cond) (vb : Nat) (kb : ClassId) (wl : List Value) (h0 : Heap) (n0 : Nat) (Z0 : n0 ≤ h0.size) (G0 : Arv Z h0 vb kb .byte (16 : Int32) wl (.int (0 : Int32))) (G1 : Exa Z h0 vb "[B") (G2 : wl.length = 16) :
    MetFree l (⟨"java/util/Arrays", "copyOfRange", "([BII)[B"⟩ : MethodName) (head1 (Jvm.Cond.code (⟨"java/util/Arrays", "copyOfRange", "([BII)[B"⟩ : MethodName) jdk_65_method_132_code 3 (some (.array .byte)) :: ws) (Rm 1 1 16 14)) (fun a_ U_ => a_ = #[(.ref vb), (.int (0 : Int32)), (.int (16 : Int32))] ∧ Z.Warmed39 U_.vm ∧ U_.heap = h0) (fun _ _ _ _ _ => True) (fun _ U_ o_ V_ => ∃ v_ L_, o_ = .returned v_ ∧ Q_cr16 Z vb kb wl h0 n0 v_ V_.heap L_ ∧ FrameEnd U_ o_ V_ L_ (Rm 1 1 16 14).cells (Rm 1 1 16 14).slots) := by
  refine MetFree.of_bodySF (plainFor_of_name pn_22) hisR ?_
  intro p e s m args below meth c s₁ Bd hml0 hP hK
  obtain ⟨rfl, hZ, hh⟩ := hP
  have hx := Bd.exec
  have hby := Bd.bytes
  have hml : c.maxLocals = 3 := hml0
  have hown : s.vm.findClass "java/util/Arrays" = some m.cls := findClass_of_methodNamed Bd.named
  have hnm := (name_of_methodNamed Bd.named Bd.method).1
  have hlk : meth.locks = false := Bd.notSynchronized
  have X0 : Stand p l e (Rm 1 1 16 14) s m #[(.ref vb), (.int (0 : Int32)), (.int (16 : Int32))] below meth c s₁ [] 0 0 := Stand.of_body Bd
  have e0 : s₁.heap = h0 := by rw [← hh, Bd.state]; rfl
  have N0 := Fr.nil n0
  have K0 := Keep.refl h0 []
  refine Comes.out (Q := Q_cr16 Z vb kb wl h0 n0) (kc := (Rm 1 1 16 14).cells) (ks := (Rm 1 1 16 14).slots) ?_
  refine Comes.cast (ef_cr16 m vb) ?_
  have lt_vb : vb < h0.size := G0.lt
  show Comes p e below _ (s₁.setTop (mkF m 0 #[.val (.ref vb), .val (.int (0 : Int32)), .val (.int (16 : Int32))] []))
  refine Comes.st (fun t k => XS.iloadN X0.here hx rfl (hb hby d22_0) rfl k) ?_
  show Comes p e below _ (s₁.setTop (mkF m 1 #[.val (.ref vb), .val (.int (0 : Int32)), .val (.int (16 : Int32))] [(.int (0 : Int32))]))
  have hc1_1 : (0 : Int32) = (0 : Int32) := by decide
  refine Comes.st (fun t k => XS.ifNo X0.here hx rfl (hb hby d22_1) rfl ((if0 _ _).trans (teq hc1_1).2) (XS.iloadN X0.here hx rfl (hb hby d22_4) rfl (XS.aloadN X0.here hx rfl (hb hby d22_5) rfl rfl k))) ?_
  show Comes p e below _ (s₁.setTop (mkF m 6 #[.val (.ref vb), .val (.int (0 : Int32)), .val (.int (16 : Int32))] [(.ref vb), (.int (16 : Int32))]))
  obtain ⟨cl2, Ar2, -, S2, Ng2, -, -⟩ := id G0
  refine Comes.st (fun t k => X0.arraylength hx (by rw [e0]; exact Ar2.1) (State.isArrayOf_alike hZ.alike Ar2.2.1) (g := (mkF m 6 #[.val (.ref vb), .val (.int (0 : Int32)), .val (.int (16 : Int32))] [(.ref vb), (.int (16 : Int32))])) rfl rfl (hb hby d22_6) _ k) ?_
  rw [len_of S2 Ng2]
  show Comes p e below _ (s₁.setTop (mkF m 7 #[.val (.ref vb), .val (.int (0 : Int32)), .val (.int (16 : Int32))] [(.int (16 : Int32)), (.int (16 : Int32))]))
  have hc7_3 : (16 : Int32) = (16 : Int32) := by decide
  refine Comes.st (fun t k => XS.icmpYes X0.here hx rfl (pc0 := 7) (pc' := 17) rfl (hb hby d22_7) rfl (teq hc7_3).1 (by decide) (by decide) (XS.aloadN X0.here hx rfl (hb hby d22_17) rfl rfl k)) ?_
  show Comes p e below _ (s₁.setTop (mkF m 18 #[.val (.ref vb), .val (.int (0 : Int32)), .val (.int (16 : Int32))] [(.ref vb)]))
  obtain ⟨T4, h4, X4, e4, E4, V4, Ex4, st4⟩ := cloneH X0 hx hZ hown (W hw 187) (W hw 188) (W hw 155) (W hw 153) (W hw 189) (W hw 190) e0 (Arv.arh G0) G1 (g := (mkF m 18 #[.val (.ref vb), .val (.int (0 : Int32)), .val (.int (16 : Int32))] [(.ref vb)])) rfl (by rw [hml]; rfl) rfl (hb hby d22_18) (by decide) (W := 0) (by show 2 * 0 + _ ≤ _; exact Nat.le_of_eq rfl) (by decide) (cap := 16) (by decide) (by decide) (by decide)
  obtain ⟨b4, g4⟩ : ∃ z, z = h0.size := ⟨_, rfl⟩
  rw [← g4] at V4 Ex4 st4
  have z4 : h0.size ≤ h4.size := E4.1
  have lt4 : b4 < h4.size := V4.lt
  have V4' : Arv Z h4 b4 kb .byte (16 : Int32) wl (.int (0 : Int32)) := V4
  have K4 : Keep h0 h4 [] := K0.ext E4
  refine Comes.st st4 ?_
  show Comes p e below _ (T4.setTop (mkF m 21 #[.val (.ref vb), .val (.int (0 : Int32)), .val (.int (16 : Int32))] [(.ref b4)]))
  obtain ⟨T5, X5, e5, st5⟩ := castY X4 hx hZ hown (W hw 191) e4 (Ins.self Ex4) (g := (mkF m 21 #[.val (.ref vb), .val (.int (0 : Int32)), .val (.int (16 : Int32))] [(.ref b4)])) rfl rfl (hb hby d22_21)
  refine Comes.st st5 ?_
  show Comes p e below _ (T5.setTop (mkF m 24 #[.val (.ref vb), .val (.int (0 : Int32)), .val (.int (16 : Int32))] [(.ref b4)]))
  exact Comes.retV X5 hx Bd.returns (narrow_ref rfl) (Or.inr (Or.inr (Or.inr (Or.inr ⟨rfl, rfl, rfl⟩)))) hlk (hb hby d22_24) e5 ⟨b4, rfl, N0, K4, Ex4⟩ (by decide) (by decide)
def Q_sia14 (Z : State) (ea sb vb : Nat) (kb : ClassId) (wl : List Value) (cs : Int32) (h0 : Heap) (n0 : Nat) (v_ : Option Value) (h : Heap) (L_ : List Loc) : Prop := (v_ = none) ∧ (Fr n0 L_) ∧ (Keep h0 h [ea]) ∧ (Exa Z h ea "java/lang/String")
theorem sia14 (l : Launch) (Z : State) (a0 : Array Value) (hw : ∀ d ∈ tables_1, d.before a0 Z = true) (ws : List Jvm.Cond) (ea sb vb : Nat) (kb : ClassId) (wl : List Value) (cs : Int32) (h0 : Heap) (n0 : Nat) (Z0 : n0 ≤ h0.size) (G0 : Exa Z h0 ea "java/lang/String") (G1 : Fld Z h0 ea "java/lang/String" "value" "[B" .null) (G2 : Fld Z h0 ea "java/lang/String" "coder" "B" (.int (0 : Int32))) (G3 : n0 ≤ ea) (G4 : Exa Z h0 sb "java/lang/StringBuilder") (G5 : Fld Z h0 sb "java/lang/AbstractStringBuilder" "value" "[B" (.ref vb)) (G6 : Fld Z h0 sb "java/lang/AbstractStringBuilder" "coder" "B" (.int (0 : Int32))) (G7 : Fld Z h0 sb "java/lang/AbstractStringBuilder" "count" "I" (.int (14 : Int32))) (G8 : Arv Z h0 vb kb .byte (16 : Int32) wl (.int (0 : Int32))) (G9 : Exa Z h0 vb "[B") (G10 : wl.length = 16) (G11 : Sta Z Z.heap "java/lang/String" "COMPACT_STRINGS" "Z" (.int cs)) (G12 : ¬ (cs = (0 : Int32))) (G13 : Old Z n0 h0) (G14 : vb ≠ ea) (G15 : sb ≠ ea) :
    MetFree l (⟨"java/lang/String", "<init>", "(Ljava/lang/AbstractStringBuilder;Ljava/lang/Void;)V"⟩ : MethodName) (head1 (Jvm.Cond.code (⟨"java/lang/String", "<init>", "(Ljava/lang/AbstractStringBuilder;Ljava/lang/Void;)V"⟩ : MethodName) jdk_42_method_150_code 5 none :: ws) (Rm 3 1 14 58)) (fun a_ U_ => a_ = #[(.ref ea), (.ref sb), .null] ∧ Z.Warmed39 U_.vm ∧ U_.heap = h0) (fun _ _ _ _ _ => True) (fun _ U_ o_ V_ => ∃ v_ L_, o_ = .returned v_ ∧ Q_sia14 Z ea sb vb kb wl cs h0 n0 v_ V_.heap L_ ∧ FrameEnd U_ o_ V_ L_ (Rm 3 1 14 58).cells (Rm 3 1 14 58).slots) := by
  refine MetFree.of_bodySF (plainFor_of_name pn_17) hisR ?_
  intro p e s m args below meth c s₁ Bd hml0 hP hK
  obtain ⟨rfl, hZ, hh⟩ := hP
  have hx := Bd.exec
  have hby := Bd.bytes
  have hml : c.maxLocals = 5 := hml0
  have hown : s.vm.findClass "java/lang/String" = some m.cls := findClass_of_methodNamed Bd.named
  have hnm := (name_of_methodNamed Bd.named Bd.method).1
  have hlk : meth.locks = false := Bd.notSynchronized
  have X0 : Stand p l e (Rm 3 1 14 58) s m #[(.ref ea), (.ref sb), .null] below meth c s₁ [] 0 0 := Stand.of_body Bd
  have e0 : s₁.heap = h0 := by rw [← hh, Bd.state]; rfl
  have N0 := Fr.nil n0
  have K0 := Keep.refl h0 [ea]
  refine Comes.out (Q := Q_sia14 Z ea sb vb kb wl cs h0 n0) (kc := (Rm 3 1 14 58).cells) (ks := (Rm 3 1 14 58).slots) ?_
  refine Comes.cast (ef_sia14 m ea sb) ?_
  have lt_ea : ea < h0.size := G0.lt
  have lt_sb : sb < h0.size := G4.lt
  have lt_vb : vb < h0.size := G8.lt
  show Comes p e below _ (s₁.setTop (mkF m 0 #[.val (.ref ea), .val (.ref sb), .val .null, .unset, .unset] []))
  refine Comes.st (fun t k => XS.aloadN X0.here hx rfl (hb hby d17_0) rfl rfl k) ?_
  show Comes p e below _ (s₁.setTop (mkF m 1 #[.val (.ref ea), .val (.ref sb), .val .null, .unset, .unset] [(.ref ea)]))
  obtain ⟨T1, X1, e1, st1⟩ := initO X0 hx hZ hown (W hw 112) (W hw 9) (W hw 10) e0 (g := (mkF m 1 #[.val (.ref ea), .val (.ref sb), .val .null, .unset, .unset] [(.ref ea)])) rfl (by rw [hml]; rfl) rfl (hb hby d17_1) (by decide) (W := 0) (by show 2 * 0 + _ ≤ _; exact Nat.le_of_eq rfl) (by decide)
  refine Comes.st st1 ?_
  show Comes p e below _ (T1.setTop (mkF m 4 #[.val (.ref ea), .val (.ref sb), .val .null, .unset, .unset] []))
  refine Comes.st (fun t k => XS.aloadN X1.here hx rfl (hb hby d17_4) rfl rfl k) ?_
  show Comes p e below _ (T1.setTop (mkF m 5 #[.val (.ref ea), .val (.ref sb), .val .null, .unset, .unset] [(.ref sb)]))
  obtain ⟨cq2, kq2, q2a, q2b, q2c⟩ := isOf hZ e1 G4
  obtain ⟨_, _, ⟨T2, L2, k2, n2⟩, -, X2, ⟨Lc2, hQ2, l2, y2, z2⟩, st2⟩ := X1.virtualBack hx (y := (⟨"java/lang/AbstractStringBuilder", "getValue", "()[B"⟩ : MethodName)) (z := (⟨"java/lang/AbstractStringBuilder", "getValue", "()[B"⟩ : MethodName)) hown (mvT hZ (W hw 113)) (mvT hZ (W hw 114)) (notFace_of_selects (args := #[]) (mvT hZ (W hw 116))) (mvT hZ (W hw 116)) (mvT hZ (W hw 115)) (by decide) (backOf (W := 0) (rm18 l Z a0 hw [] sb vb h0 n0 (by omega)  G4 G5) hZ (W hw 117) (W hw 40) (by decide) (by decide)) q2a q2c (g := (mkF m 5 #[.val (.ref ea), .val (.ref sb), .val .null, .unset, .unset] [(.ref sb)])) rfl (by rw [hml]; rfl) (Steps.refl _) (argsL := []) (rest := []) (lenOf pd_10 rfl) rfl (by show 2 * 0 + _ ≤ _; exact Nat.le_of_eq rfl) (hb hby d17_5) (fun _ _ => ⟨rfl, e1, (by decide : 0 + 0 ≤ _), (by decide : 0 + 0 ≤ _)⟩)
  dsimp only [Pt.U, Pt.locs, Pt.cells, Pt.slots] at X2 l2 y2 z2 st2 hQ2
  subst l2 y2 z2
  obtain ⟨rfl, Nq2, hs2⟩ := hQ2
  have N2 := Fr.app N0 Nq2
  refine Comes.go st2 ?_
  show Comes p e below _ (T2.setTop (mkF m 8 #[.val (.ref ea), .val (.ref sb), .val .null, .unset, .unset] [(.ref vb)]))
  refine Comes.st (fun t k => XS.astoreN X2.here hx rfl (hb hby d17_8) rfl rfl (l' := #[.val (.ref ea), .val (.ref sb), .val .null, .val (.ref vb), .unset]) rfl (XS.aloadN X2.here hx rfl (hb hby d17_9) rfl rfl k)) ?_
  show Comes p e below _ (T2.setTop (mkF m 10 #[.val (.ref ea), .val (.ref sb), .val .null, .val (.ref vb), .unset] [(.ref sb)]))
  obtain ⟨cq3, kq3, q3a, q3b, q3c⟩ := isOf hZ hs2 G4
  obtain ⟨_, _, ⟨T3, L3, k3, n3⟩, -, X3, ⟨Lc3, hQ3, l3, y3, z3⟩, st3⟩ := X2.virtualBack hx (y := (⟨"java/lang/AbstractStringBuilder", "length", "()I"⟩ : MethodName)) (z := (⟨"java/lang/StringBuilder", "length", "()I"⟩ : MethodName)) hown (mvT hZ (W hw 118)) (mvT hZ (W hw 119)) (own_nface (notFace_of_selects (args := #[]) (y := (⟨"java/lang/AbstractStringBuilder", "ensureCapacityInternal", "(I)V"⟩ : MethodName)) (mvT hZ (W hw 76))) (mvT (args := #[]) hZ (W hw 74)) rfl) (mvT hZ (W hw 121)) (mvT hZ (W hw 122)) (by decide) (backOf (W := 0) (rm19 l Z a0 hw [] sb ((14 : Int32)) h0 n0 (by omega)  G4 G7) hZ (W hw 123) (W hw 32) (by decide) (by decide)) q3a q3c (g := (mkF m 10 #[.val (.ref ea), .val (.ref sb), .val .null, .val (.ref vb), .unset] [(.ref sb)])) rfl (by rw [hml]; rfl) (Steps.refl _) (argsL := []) (rest := []) (lenOf pd_4 rfl) rfl (by show 2 * 0 + _ ≤ _; exact Nat.le_of_eq rfl) (hb hby d17_10) (fun _ _ => ⟨rfl, hs2, (by decide : 0 + 0 ≤ _), (by decide : 0 + 0 ≤ _)⟩)
  dsimp only [Pt.U, Pt.locs, Pt.cells, Pt.slots] at X3 l3 y3 z3 st3 hQ3
  subst l3 y3 z3
  obtain ⟨rfl, Nq3, hs3⟩ := hQ3
  have N3 := Fr.app N2 Nq3
  refine Comes.go st3 ?_
  show Comes p e below _ (T3.setTop (mkF m 13 #[.val (.ref ea), .val (.ref sb), .val .null, .val (.ref vb), .unset] [(.int (14 : Int32))]))
  refine Comes.st (fun t k => XS.istore X3.here hx rfl (hb hby d17_13) rfl (l' := #[.val (.ref ea), .val (.ref sb), .val .null, .val (.ref vb), .val (.int (14 : Int32))]) rfl (XS.aloadN X3.here hx rfl (hb hby d17_15) rfl rfl k)) ?_
  show Comes p e below _ (T3.setTop (mkF m 16 #[.val (.ref ea), .val (.ref sb), .val .null, .val (.ref vb), .val (.int (14 : Int32))] [(.ref sb)]))
  obtain ⟨cq4, kq4, q4a, q4b, q4c⟩ := isOf hZ hs3 G4
  obtain ⟨_, _, ⟨T4, L4, k4, n4⟩, -, X4, ⟨Lc4, hQ4, l4, y4, z4⟩, st4⟩ := X3.virtualBack hx (y := (⟨"java/lang/AbstractStringBuilder", "isLatin1", "()Z"⟩ : MethodName)) (z := (⟨"java/lang/AbstractStringBuilder", "isLatin1", "()Z"⟩ : MethodName)) hown (mvT hZ (W hw 126)) (mvT hZ (W hw 127)) (notFace_of_selects (args := #[]) (mvT hZ (W hw 129))) (mvT hZ (W hw 129)) (mvT hZ (W hw 128)) (by decide) (backOf (W := 0) (rm21 l Z a0 hw [] sb cs h0 n0 (by omega)  G4 G6 G11 (by assumption) G13) hZ (W hw 130) (W hw 40) (by decide) (by decide)) q4a q4c (g := (mkF m 16 #[.val (.ref ea), .val (.ref sb), .val .null, .val (.ref vb), .val (.int (14 : Int32))] [(.ref sb)])) rfl (by rw [hml]; rfl) (Steps.refl _) (argsL := []) (rest := []) (lenOf pd_11 rfl) rfl (by show 2 * 0 + _ ≤ _; exact Nat.le_of_eq rfl) (hb hby d17_16) (fun _ _ => ⟨rfl, hs3, (by decide : 0 + 0 ≤ _), (by decide : 0 + 0 ≤ _)⟩)
  dsimp only [Pt.U, Pt.locs, Pt.cells, Pt.slots] at X4 l4 y4 z4 st4 hQ4
  subst l4 y4 z4
  obtain ⟨rfl, Nq4, hs4⟩ := hQ4
  have N4 := Fr.app N3 Nq4
  refine Comes.go st4 ?_
  show Comes p e below _ (T4.setTop (mkF m 19 #[.val (.ref ea), .val (.ref sb), .val .null, .val (.ref vb), .val (.int (14 : Int32))] [(.int (1 : Int32))]))
  have hc19_5 : ¬ ((1 : Int32) = (0 : Int32)) := by decide
  refine Comes.st (fun t k => XS.ifNo X4.here hx rfl (hb hby d17_19) rfl ((if0 _ _).trans (feq hc19_5).1) (XS.aloadN X4.here hx rfl (hb hby d17_22) rfl rfl (XS.iconst X4.here hx rfl (hb hby d17_23) k))) ?_
  show Comes p e below _ (T4.setTop (mkF m 24 #[.val (.ref ea), .val (.ref sb), .val .null, .val (.ref vb), .val (.int (14 : Int32))] [(.int (0 : Int32)), (.ref ea)]))
  obtain ⟨T6, h6, X6, e6, W6, st6⟩ := putFN X4 hx hZ hown (W hw 70) Via.refl hs4 G2 G0 (Or.inr ⟨(W hw 16), rfl, hnm⟩) (W hw 13) (ty := .byte) (v' := (.int (nar .byte (0 : Int32)))) (by decide) rfl (fits_nar_byte _) (g := (mkF m 24 #[.val (.ref ea), .val (.ref sb), .val .null, .val (.ref vb), .val (.int (14 : Int32))] [(.int (0 : Int32)), (.ref ea)])) rfl rfl (hb hby d17_24)
  have Fw6 := G2.same W6
  rw [show (nar .byte (0 : Int32)) = (0 : Int32) from by decide] at Fw6
  have z6 : h6.size = h0.size := W6.size
  have gn7 : n0 ≤ ea := by omega
  have N6 := Fr.snoc X6 N4 gn7
  have K6 : Keep h0 h6 [ea] := K0.wr W6 (Or.inl (List.mem_of_getElem? (i := 0) rfl))
  refine Comes.st st6 ?_
  show Comes p e below _ (T6.setTop (mkF m 27 #[.val (.ref ea), .val (.ref sb), .val .null, .val (.ref vb), .val (.int (14 : Int32))] []))
  refine Comes.st (fun t k => XS.aloadN X6.here hx rfl (hb hby d17_27) rfl rfl (XS.aloadN X6.here hx rfl (hb hby d17_28) rfl rfl (XS.iconst X6.here hx rfl (hb hby d17_29) (XS.iload X6.here hx rfl (hb hby d17_30) rfl k)))) ?_
  show Comes p e below _ (T6.setTop (mkF m 32 #[.val (.ref ea), .val (.ref sb), .val .null, .val (.ref vb), .val (.int (14 : Int32))] [(.int (14 : Int32)), (.int (0 : Int32)), (.ref vb), (.ref ea)]))
  have F8 : Arv Z h6 vb kb .byte (16 : Int32) wl (.int (0 : Int32)) := (G8.other W6 G14)
  have F9 : Exa Z h6 vb "[B" := (G9.wr W6)
  obtain ⟨_, _, ⟨T10, L10, k10, n10⟩, -, X10, ⟨Lc10, hQ10, l10, y10, z10⟩, st10⟩ := Jvm.LawKit.callS X6 hx (y := (⟨"java/util/Arrays", "copyOfRange", "([BII)[B"⟩ : MethodName)) hown (mvT hZ (W hw 131)) (mvT hZ (W hw 132)) (mvT hZ (W hw 133)) (mvT hZ (W hw 134)) (by decide) (backOf (W := 1) (cr14 l Z a0 hw [] vb kb wl h6 n0 (by omega)  F8 F9 (by first | assumption | rfl)) hZ (W hw 134) (W hw 133) (by decide) (by decide)) (g := (mkF m 32 #[.val (.ref ea), .val (.ref sb), .val .null, .val (.ref vb), .val (.int (14 : Int32))] [(.int (14 : Int32)), (.int (0 : Int32)), (.ref vb), (.ref ea)])) rfl (by rw [hml]; rfl) (argsL := [(.ref vb), (.int (0 : Int32)), (.int (14 : Int32))]) (rest := [(.ref ea)]) (lenOf pd_9 rfl) rfl (by show 2 * 0 + _ ≤ _; exact Nat.le_of_eq rfl) (hb hby d17_32) (fun _ _ => ⟨rfl, e6, (by decide : 0 + 1 ≤ _), (by decide : 0 + 14 ≤ _)⟩)
  dsimp only [Pt.U, Pt.locs, Pt.cells, Pt.slots] at X10 l10 y10 z10 st10 hQ10
  subst l10 y10 z10
  obtain ⟨o11, rfl, Nq10, Kq10, P10_0⟩ := hQ10
  have N10 := Fr.app N6 Nq10
  have z10k : h6.size ≤ T10.heap.size := Kq10.1
  have K10 : Keep h0 T10.heap [ea] := K6.trans Kq10 all0
  refine Comes.st st10 ?_
  have lt_12 : o11 < T10.heap.size := P10_0.lt
  show Comes p e below _ (T10.setTop (mkF m 35 #[.val (.ref ea), .val (.ref sb), .val .null, .val (.ref vb), .val (.int (14 : Int32))] [(.ref o11), (.ref ea)]))
  have F13 : Exa Z T10.heap ea "java/lang/String" := ((G0.wr W6).keep Kq10)
  have F14 : Fld Z T10.heap ea "java/lang/String" "value" "[B" .null := ((G1.other W6 (Or.inr (slot_ne (Or.inr (W hw 15)) (Or.inr (W hw 16)) (by decide) (t := (.array .byte)) (t' := .byte) (by decide) (by decide)))).keep Kq10 nin0)
  obtain ⟨T15, h15, X15, e15, W15, st15⟩ := putF X10 hx hZ hown (host := "") (Or.inl (W hw 63)) Via.refl rfl F14 F13 (Or.inr ⟨(W hw 15), rfl, hnm⟩) (W hw 13) (ty := (.array .byte)) (by decide) rfl rfl (g := (mkF m 35 #[.val (.ref ea), .val (.ref sb), .val .null, .val (.ref vb), .val (.int (14 : Int32))] [(.ref o11), (.ref ea)])) rfl rfl (hb hby d17_35)
  have Fw15 := F14.same W15
  have z15 : h15.size = T10.heap.size := W15.size
  have N15 := Fr.snoc X15 N10 gn7
  have K15 : Keep h0 h15 [ea] := K10.wr W15 (Or.inl (List.mem_of_getElem? (i := 0) rfl))
  refine Comes.st st15 ?_
  show Comes p e below _ (T15.setTop (mkF m 38 #[.val (.ref ea), .val (.ref sb), .val .null, .val (.ref vb), .val (.int (14 : Int32))] []))
  refine Comes.st (fun t k => XS.goto X15.here hx rfl (pc0 := 38) (pc' := 97) rfl (hb hby d17_38) (by decide) (by decide) k) ?_
  show Comes p e below _ (T15.setTop (mkF m 97 #[.val (.ref ea), .val (.ref sb), .val .null, .val (.ref vb), .val (.int (14 : Int32))] []))
  have F16 : Exa Z h15 ea "java/lang/String" := (F13.wr W15)
  exact Comes.ret0 X15 hx Bd.returns hlk (hb hby d17_97) e15 ⟨rfl, N15, K15, F16⟩ (by decide) (by decide)
def Q_sis14 (Z : State) (ea sb vb : Nat) (kb : ClassId) (wl : List Value) (cs : Int32) (h0 : Heap) (n0 : Nat) (v_ : Option Value) (h : Heap) (L_ : List Loc) : Prop := (v_ = none) ∧ (Fr n0 L_) ∧ (Keep h0 h [ea]) ∧ (Exa Z h ea "java/lang/String")
theorem sis14 (l : Launch) (Z : State) (a0 : Array Value) (hw : ∀ d ∈ tables_1, d.before a0 Z = true) (ws : List Jvm.Cond) (ea sb vb : Nat) (kb : ClassId) (wl : List Value) (cs : Int32) (h0 : Heap) (n0 : Nat) (Z0 : n0 ≤ h0.size) (G0 : Exa Z h0 ea "java/lang/String") (G1 : Fld Z h0 ea "java/lang/String" "value" "[B" .null) (G2 : Fld Z h0 ea "java/lang/String" "coder" "B" (.int (0 : Int32))) (G3 : n0 ≤ ea) (G4 : Exa Z h0 sb "java/lang/StringBuilder") (G5 : Fld Z h0 sb "java/lang/AbstractStringBuilder" "value" "[B" (.ref vb)) (G6 : Fld Z h0 sb "java/lang/AbstractStringBuilder" "coder" "B" (.int (0 : Int32))) (G7 : Fld Z h0 sb "java/lang/AbstractStringBuilder" "count" "I" (.int (14 : Int32))) (G8 : Arv Z h0 vb kb .byte (16 : Int32) wl (.int (0 : Int32))) (G9 : Exa Z h0 vb "[B") (G10 : wl.length = 16) (G11 : Sta Z Z.heap "java/lang/String" "COMPACT_STRINGS" "Z" (.int cs)) (G12 : ¬ (cs = (0 : Int32))) (G13 : Old Z n0 h0) (G14 : vb ≠ ea) (G15 : sb ≠ ea) :
    MetFree l (⟨"java/lang/String", "<init>", "(Ljava/lang/StringBuilder;)V"⟩ : MethodName) (head1 (Jvm.Cond.code (⟨"java/lang/String", "<init>", "(Ljava/lang/StringBuilder;)V"⟩ : MethodName) jdk_42_method_53_code 2 none :: ws) (Rm 4 1 14 74)) (fun a_ U_ => a_ = #[(.ref ea), (.ref sb)] ∧ Z.Warmed39 U_.vm ∧ U_.heap = h0) (fun _ _ _ _ _ => True) (fun _ U_ o_ V_ => ∃ v_ L_, o_ = .returned v_ ∧ Q_sis14 Z ea sb vb kb wl cs h0 n0 v_ V_.heap L_ ∧ FrameEnd U_ o_ V_ L_ (Rm 4 1 14 74).cells (Rm 4 1 14 74).slots) := by
  refine MetFree.of_bodySF (plainFor_of_name pn_16) hisR ?_
  intro p e s m args below meth c s₁ Bd hml0 hP hK
  obtain ⟨rfl, hZ, hh⟩ := hP
  have hx := Bd.exec
  have hby := Bd.bytes
  have hml : c.maxLocals = 2 := hml0
  have hown : s.vm.findClass "java/lang/String" = some m.cls := findClass_of_methodNamed Bd.named
  have hnm := (name_of_methodNamed Bd.named Bd.method).1
  have hlk : meth.locks = false := Bd.notSynchronized
  have X0 : Stand p l e (Rm 4 1 14 74) s m #[(.ref ea), (.ref sb)] below meth c s₁ [] 0 0 := Stand.of_body Bd
  have e0 : s₁.heap = h0 := by rw [← hh, Bd.state]; rfl
  have N0 := Fr.nil n0
  have K0 := Keep.refl h0 [ea]
  refine Comes.out (Q := Q_sis14 Z ea sb vb kb wl cs h0 n0) (kc := (Rm 4 1 14 74).cells) (ks := (Rm 4 1 14 74).slots) ?_
  refine Comes.cast (ef_sis14 m ea sb) ?_
  have lt_ea : ea < h0.size := G0.lt
  have lt_sb : sb < h0.size := G4.lt
  have lt_vb : vb < h0.size := G8.lt
  show Comes p e below _ (s₁.setTop (mkF m 0 #[.val (.ref ea), .val (.ref sb)] []))
  refine Comes.st (fun t k => XS.aloadN X0.here hx rfl (hb hby d16_0) rfl rfl (XS.aloadN X0.here hx rfl (hb hby d16_1) rfl rfl (XS.aconstNull X0.here hx rfl (hb hby d16_2) k))) ?_
  show Comes p e below _ (s₁.setTop (mkF m 3 #[.val (.ref ea), .val (.ref sb)] [.null, (.ref sb), (.ref ea)]))
  obtain ⟨_, _, ⟨T1, L1, k1, n1⟩, -, X1, ⟨Lc1, hQ1, l1, y1, z1⟩, st1⟩ := X0.specialBack hx (y := (⟨"java/lang/String", "<init>", "(Ljava/lang/AbstractStringBuilder;Ljava/lang/Void;)V"⟩ : MethodName)) rfl hown (mvT hZ (W hw 109)) (mvT hZ (W hw 110)) (mvT hZ (W hw 111)) (by decide) (backOf (W := 0) (sia14 l Z a0 hw [] ea sb vb kb wl cs h0 n0 (by omega)  G0 G1 G2 (by omega) G4 G5 G6 G7 G8 G9 (by first | assumption | rfl) G11 (by assumption) G13 G14 G15) hZ (W hw 111) (W hw 12) (by decide) (by decide)) (g := (mkF m 3 #[.val (.ref ea), .val (.ref sb)] [.null, (.ref sb), (.ref ea)])) rfl (by rw [hml]; rfl) (Steps.refl _) (a := ea) (argsL := [(.ref sb), .null]) (rest := []) (lenOf pd_12 rfl) rfl (by show 2 * 0 + _ ≤ _; exact Nat.le_of_eq rfl) (hb hby d16_3) (fun _ _ => ⟨rfl, e0, (by decide : 0 + 1 ≤ _), (by decide : 0 + 14 ≤ _)⟩)
  dsimp only [Pt.U, Pt.locs, Pt.cells, Pt.slots] at X1 l1 y1 z1 st1 hQ1
  subst l1 y1 z1
  obtain ⟨rfl, Nq1, Kq1, P1_0⟩ := hQ1
  have N1 := Fr.app N0 Nq1
  have z1k : h0.size ≤ T1.heap.size := Kq1.1
  have K1 : Keep h0 T1.heap [ea] := K0.trans Kq1 (allS (Or.inl (List.mem_of_getElem? (i := 0) rfl)) all0)
  refine Comes.go st1 ?_
  show Comes p e below _ (T1.setTop (mkF m 6 #[.val (.ref ea), .val (.ref sb)] []))
  exact Comes.ret0 X1 hx Bd.returns hlk (hb hby d16_6) rfl ⟨rfl, N1, K1, P1_0⟩ (by decide) (by decide)
def Q_ts14 (Z : State) (sb vb : Nat) (kb : ClassId) (wl : List Value) (cs : Int32) (h0 : Heap) (n0 : Nat) (v_ : Option Value) (h : Heap) (L_ : List Loc) : Prop := ∃ (r : Nat), (v_ = some (.ref r)) ∧ (Fr n0 L_) ∧ (Keep h0 h []) ∧ (Exa Z h r "java/lang/String")
theorem ts14 (l : Launch) (Z : State) (a0 : Array Value) (hw : ∀ d ∈ tables_1, d.before a0 Z = true) (ws : List Jvm.Cond) (sb vb : Nat) (kb : ClassId) (wl : List Value) (cs : Int32) (h0 : Heap) (n0 : Nat) (Z0 : n0 ≤ h0.size) (G0 : Exa Z h0 sb "java/lang/StringBuilder") (G1 : Fld Z h0 sb "java/lang/AbstractStringBuilder" "value" "[B" (.ref vb)) (G2 : Fld Z h0 sb "java/lang/AbstractStringBuilder" "coder" "B" (.int (0 : Int32))) (G3 : Fld Z h0 sb "java/lang/AbstractStringBuilder" "count" "I" (.int (14 : Int32))) (G4 : Arv Z h0 vb kb .byte (16 : Int32) wl (.int (0 : Int32))) (G5 : Exa Z h0 vb "[B") (G6 : wl.length = 16) (G7 : Sta Z Z.heap "java/lang/String" "COMPACT_STRINGS" "Z" (.int cs)) (G8 : ¬ (cs = (0 : Int32))) (G9 : Old Z n0 h0) :
    MetFree l (⟨"java/lang/StringBuilder", "toString", "()Ljava/lang/String;"⟩ : MethodName) (head1 (Jvm.Cond.code (⟨"java/lang/StringBuilder", "toString", "()Ljava/lang/String;"⟩ : MethodName) jdk_67_method_42_code 1 (some (.object "java/lang/String")) :: ws) (Rm 5 2 18 88)) (fun a_ U_ => a_ = #[(.ref sb)] ∧ Z.Warmed39 U_.vm ∧ U_.heap = h0) (fun _ _ _ _ _ => True) (fun _ U_ o_ V_ => ∃ v_ L_, o_ = .returned v_ ∧ Q_ts14 Z sb vb kb wl cs h0 n0 v_ V_.heap L_ ∧ FrameEnd U_ o_ V_ L_ (Rm 5 2 18 88).cells (Rm 5 2 18 88).slots) := by
  refine MetFree.of_bodySF (plainFor_of_name pn_15) hisR ?_
  intro p e s m args below meth c s₁ Bd hml0 hP hK
  obtain ⟨rfl, hZ, hh⟩ := hP
  have hx := Bd.exec
  have hby := Bd.bytes
  have hml : c.maxLocals = 1 := hml0
  have hown : s.vm.findClass "java/lang/StringBuilder" = some m.cls := findClass_of_methodNamed Bd.named
  have hnm := (name_of_methodNamed Bd.named Bd.method).1
  have hlk : meth.locks = false := Bd.notSynchronized
  have X0 : Stand p l e (Rm 5 2 18 88) s m #[(.ref sb)] below meth c s₁ [] 0 0 := Stand.of_body Bd
  have e0 : s₁.heap = h0 := by rw [← hh, Bd.state]; rfl
  have N0 := Fr.nil n0
  have K0 := Keep.refl h0 []
  refine Comes.out (Q := Q_ts14 Z sb vb kb wl cs h0 n0) (kc := (Rm 5 2 18 88).cells) (ks := (Rm 5 2 18 88).slots) ?_
  refine Comes.cast (ef_ts14 m sb) ?_
  have lt_sb : sb < h0.size := G0.lt
  have lt_vb : vb < h0.size := G4.lt
  show Comes p e below _ (s₁.setTop (mkF m 0 #[.val (.ref sb)] []))
  obtain ⟨T1, h1, X1, e1, E1, A1, D1, -, st1⟩ := newO X0 hx hZ hown (W hw 104) (W hw 13) (W hw 12) e0 (g := (mkF m 0 #[.val (.ref sb)] [])) rfl (hb hby d15_0) (by decide) (by decide)
  obtain ⟨b1, g1⟩ : ∃ z, z = h0.size := ⟨_, rfl⟩
  rw [← g1] at A1 D1 st1
  have z1 : h0.size ≤ h1.size := E1.1
  have lt1 : b1 < h1.size := A1.lt
  have F2 : Fld Z h1 b1 "java/lang/String" "value" "[B" .null := D1 (Or.inr (W hw 15)) (ty := (.array .byte)) (by decide)
  have F3 : Fld Z h1 b1 "java/lang/String" "coder" "B" (.int (0 : Int32)) := D1 (Or.inr (W hw 16)) (ty := .byte) (by decide)
  have K1 : Keep h0 h1 [] := K0.ext E1
  refine Comes.st st1 ?_
  show Comes p e below _ (T1.setTop (mkF m 3 #[.val (.ref sb)] [(.ref b1)]))
  refine Comes.st (fun t k => XS.dup X1.here hx rfl (hb hby d15_3) rfl rfl (XS.aloadN X1.here hx rfl (hb hby d15_4) rfl rfl k)) ?_
  show Comes p e below _ (T1.setTop (mkF m 5 #[.val (.ref sb)] [(.ref sb), (.ref b1), (.ref b1)]))
  have F4 : Exa Z h1 sb "java/lang/StringBuilder" := (G0.ext E1)
  have F5 : Fld Z h1 sb "java/lang/AbstractStringBuilder" "value" "[B" (.ref vb) := (G1.ext E1)
  have F6 : Fld Z h1 sb "java/lang/AbstractStringBuilder" "coder" "B" (.int (0 : Int32)) := (G2.ext E1)
  have F7 : Fld Z h1 sb "java/lang/AbstractStringBuilder" "count" "I" (.int (14 : Int32)) := (G3.ext E1)
  have F8 : Arv Z h1 vb kb .byte (16 : Int32) wl (.int (0 : Int32)) := (G4.ext E1)
  have F9 : Exa Z h1 vb "[B" := (G5.ext E1)
  have Od10 : Old Z n0 h1 := (G9.ext E1)
  have ne11 : vb ≠ b1 := by omega
  have ne12 : sb ≠ b1 := by omega
  obtain ⟨_, _, ⟨T13, L13, k13, n13⟩, -, X13, ⟨Lc13, hQ13, l13, y13, z13⟩, st13⟩ := X1.specialBack hx (y := (⟨"java/lang/String", "<init>", "(Ljava/lang/StringBuilder;)V"⟩ : MethodName)) rfl hown (mvT hZ (W hw 105)) (mvT hZ (W hw 106)) (mvT hZ (W hw 108)) (by decide) (backOf (W := 1) (sis14 l Z a0 hw [] b1 sb vb kb wl cs h1 n0 (by omega)  A1 F2 F3 (by omega) F4 F5 F6 F7 F8 F9 (by first | assumption | rfl) G7 (by assumption) Od10 ne11 ne12) hZ (W hw 108) (W hw 12) (by decide) (by decide)) (g := (mkF m 5 #[.val (.ref sb)] [(.ref sb), (.ref b1), (.ref b1)])) rfl (by rw [hml]; rfl) (Steps.refl _) (a := b1) (argsL := [(.ref sb)]) (rest := [(.ref b1)]) (lenOf pd_13 rfl) rfl (by show 2 * 0 + _ ≤ _; exact Nat.le_of_eq rfl) (hb hby d15_5) (fun _ _ => ⟨rfl, e1, (by decide : 1 + 1 ≤ _), (by decide : 4 + 14 ≤ _)⟩)
  dsimp only [Pt.U, Pt.locs, Pt.cells, Pt.slots] at X13 l13 y13 z13 st13 hQ13
  subst l13 y13 z13
  obtain ⟨rfl, Nq13, Kq13, P13_0⟩ := hQ13
  have N13 := Fr.app N0 Nq13
  have z13k : h1.size ≤ T13.heap.size := Kq13.1
  have gz14 : h0.size ≤ b1 := by omega
  have K13 : Keep h0 T13.heap [] := K1.trans Kq13 (allS (Or.inr gz14) all0)
  refine Comes.go st13 ?_
  have lt_15 : b1 < T13.heap.size := P13_0.lt
  show Comes p e below _ (T13.setTop (mkF m 8 #[.val (.ref sb)] [(.ref b1)]))
  exact Comes.retV X13 hx Bd.returns (narrow_ref rfl) (Or.inr (Or.inr (Or.inr (Or.inr ⟨rfl, rfl, rfl⟩)))) hlk (hb hby d15_8) rfl ⟨b1, rfl, N13, K13, P13_0⟩ (by decide) (by decide)
def Q_sia15 (Z : State) (ea sb vb : Nat) (kb : ClassId) (wl : List Value) (cs : Int32) (h0 : Heap) (n0 : Nat) (v_ : Option Value) (h : Heap) (L_ : List Loc) : Prop := (v_ = none) ∧ (Fr n0 L_) ∧ (Keep h0 h [ea]) ∧ (Exa Z h ea "java/lang/String")
theorem sia15 (l : Launch) (Z : State) (a0 : Array Value) (hw : ∀ d ∈ tables_1, d.before a0 Z = true) (ws : List Jvm.Cond) (ea sb vb : Nat) (kb : ClassId) (wl : List Value) (cs : Int32) (h0 : Heap) (n0 : Nat) (Z0 : n0 ≤ h0.size) (G0 : Exa Z h0 ea "java/lang/String") (G1 : Fld Z h0 ea "java/lang/String" "value" "[B" .null) (G2 : Fld Z h0 ea "java/lang/String" "coder" "B" (.int (0 : Int32))) (G3 : n0 ≤ ea) (G4 : Exa Z h0 sb "java/lang/StringBuilder") (G5 : Fld Z h0 sb "java/lang/AbstractStringBuilder" "value" "[B" (.ref vb)) (G6 : Fld Z h0 sb "java/lang/AbstractStringBuilder" "coder" "B" (.int (0 : Int32))) (G7 : Fld Z h0 sb "java/lang/AbstractStringBuilder" "count" "I" (.int (15 : Int32))) (G8 : Arv Z h0 vb kb .byte (16 : Int32) wl (.int (0 : Int32))) (G9 : Exa Z h0 vb "[B") (G10 : wl.length = 16) (G11 : Sta Z Z.heap "java/lang/String" "COMPACT_STRINGS" "Z" (.int cs)) (G12 : ¬ (cs = (0 : Int32))) (G13 : Old Z n0 h0) (G14 : vb ≠ ea) (G15 : sb ≠ ea) :
    MetFree l (⟨"java/lang/String", "<init>", "(Ljava/lang/AbstractStringBuilder;Ljava/lang/Void;)V"⟩ : MethodName) (head1 (Jvm.Cond.code (⟨"java/lang/String", "<init>", "(Ljava/lang/AbstractStringBuilder;Ljava/lang/Void;)V"⟩ : MethodName) jdk_42_method_150_code 5 none :: ws) (Rm 3 1 15 58)) (fun a_ U_ => a_ = #[(.ref ea), (.ref sb), .null] ∧ Z.Warmed39 U_.vm ∧ U_.heap = h0) (fun _ _ _ _ _ => True) (fun _ U_ o_ V_ => ∃ v_ L_, o_ = .returned v_ ∧ Q_sia15 Z ea sb vb kb wl cs h0 n0 v_ V_.heap L_ ∧ FrameEnd U_ o_ V_ L_ (Rm 3 1 15 58).cells (Rm 3 1 15 58).slots) := by
  refine MetFree.of_bodySF (plainFor_of_name pn_17) hisR ?_
  intro p e s m args below meth c s₁ Bd hml0 hP hK
  obtain ⟨rfl, hZ, hh⟩ := hP
  have hx := Bd.exec
  have hby := Bd.bytes
  have hml : c.maxLocals = 5 := hml0
  have hown : s.vm.findClass "java/lang/String" = some m.cls := findClass_of_methodNamed Bd.named
  have hnm := (name_of_methodNamed Bd.named Bd.method).1
  have hlk : meth.locks = false := Bd.notSynchronized
  have X0 : Stand p l e (Rm 3 1 15 58) s m #[(.ref ea), (.ref sb), .null] below meth c s₁ [] 0 0 := Stand.of_body Bd
  have e0 : s₁.heap = h0 := by rw [← hh, Bd.state]; rfl
  have N0 := Fr.nil n0
  have K0 := Keep.refl h0 [ea]
  refine Comes.out (Q := Q_sia15 Z ea sb vb kb wl cs h0 n0) (kc := (Rm 3 1 15 58).cells) (ks := (Rm 3 1 15 58).slots) ?_
  refine Comes.cast (ef_sia15 m ea sb) ?_
  have lt_ea : ea < h0.size := G0.lt
  have lt_sb : sb < h0.size := G4.lt
  have lt_vb : vb < h0.size := G8.lt
  show Comes p e below _ (s₁.setTop (mkF m 0 #[.val (.ref ea), .val (.ref sb), .val .null, .unset, .unset] []))
  refine Comes.st (fun t k => XS.aloadN X0.here hx rfl (hb hby d17_0) rfl rfl k) ?_
  show Comes p e below _ (s₁.setTop (mkF m 1 #[.val (.ref ea), .val (.ref sb), .val .null, .unset, .unset] [(.ref ea)]))
  obtain ⟨T1, X1, e1, st1⟩ := initO X0 hx hZ hown (W hw 112) (W hw 9) (W hw 10) e0 (g := (mkF m 1 #[.val (.ref ea), .val (.ref sb), .val .null, .unset, .unset] [(.ref ea)])) rfl (by rw [hml]; rfl) rfl (hb hby d17_1) (by decide) (W := 0) (by show 2 * 0 + _ ≤ _; exact Nat.le_of_eq rfl) (by decide)
  refine Comes.st st1 ?_
  show Comes p e below _ (T1.setTop (mkF m 4 #[.val (.ref ea), .val (.ref sb), .val .null, .unset, .unset] []))
  refine Comes.st (fun t k => XS.aloadN X1.here hx rfl (hb hby d17_4) rfl rfl k) ?_
  show Comes p e below _ (T1.setTop (mkF m 5 #[.val (.ref ea), .val (.ref sb), .val .null, .unset, .unset] [(.ref sb)]))
  obtain ⟨cq2, kq2, q2a, q2b, q2c⟩ := isOf hZ e1 G4
  obtain ⟨_, _, ⟨T2, L2, k2, n2⟩, -, X2, ⟨Lc2, hQ2, l2, y2, z2⟩, st2⟩ := X1.virtualBack hx (y := (⟨"java/lang/AbstractStringBuilder", "getValue", "()[B"⟩ : MethodName)) (z := (⟨"java/lang/AbstractStringBuilder", "getValue", "()[B"⟩ : MethodName)) hown (mvT hZ (W hw 113)) (mvT hZ (W hw 114)) (notFace_of_selects (args := #[]) (mvT hZ (W hw 116))) (mvT hZ (W hw 116)) (mvT hZ (W hw 115)) (by decide) (backOf (W := 0) (rm18 l Z a0 hw [] sb vb h0 n0 (by omega)  G4 G5) hZ (W hw 117) (W hw 40) (by decide) (by decide)) q2a q2c (g := (mkF m 5 #[.val (.ref ea), .val (.ref sb), .val .null, .unset, .unset] [(.ref sb)])) rfl (by rw [hml]; rfl) (Steps.refl _) (argsL := []) (rest := []) (lenOf pd_10 rfl) rfl (by show 2 * 0 + _ ≤ _; exact Nat.le_of_eq rfl) (hb hby d17_5) (fun _ _ => ⟨rfl, e1, (by decide : 0 + 0 ≤ _), (by decide : 0 + 0 ≤ _)⟩)
  dsimp only [Pt.U, Pt.locs, Pt.cells, Pt.slots] at X2 l2 y2 z2 st2 hQ2
  subst l2 y2 z2
  obtain ⟨rfl, Nq2, hs2⟩ := hQ2
  have N2 := Fr.app N0 Nq2
  refine Comes.go st2 ?_
  show Comes p e below _ (T2.setTop (mkF m 8 #[.val (.ref ea), .val (.ref sb), .val .null, .unset, .unset] [(.ref vb)]))
  refine Comes.st (fun t k => XS.astoreN X2.here hx rfl (hb hby d17_8) rfl rfl (l' := #[.val (.ref ea), .val (.ref sb), .val .null, .val (.ref vb), .unset]) rfl (XS.aloadN X2.here hx rfl (hb hby d17_9) rfl rfl k)) ?_
  show Comes p e below _ (T2.setTop (mkF m 10 #[.val (.ref ea), .val (.ref sb), .val .null, .val (.ref vb), .unset] [(.ref sb)]))
  obtain ⟨cq3, kq3, q3a, q3b, q3c⟩ := isOf hZ hs2 G4
  obtain ⟨_, _, ⟨T3, L3, k3, n3⟩, -, X3, ⟨Lc3, hQ3, l3, y3, z3⟩, st3⟩ := X2.virtualBack hx (y := (⟨"java/lang/AbstractStringBuilder", "length", "()I"⟩ : MethodName)) (z := (⟨"java/lang/StringBuilder", "length", "()I"⟩ : MethodName)) hown (mvT hZ (W hw 118)) (mvT hZ (W hw 119)) (own_nface (notFace_of_selects (args := #[]) (y := (⟨"java/lang/AbstractStringBuilder", "ensureCapacityInternal", "(I)V"⟩ : MethodName)) (mvT hZ (W hw 76))) (mvT (args := #[]) hZ (W hw 74)) rfl) (mvT hZ (W hw 121)) (mvT hZ (W hw 122)) (by decide) (backOf (W := 0) (rm19 l Z a0 hw [] sb ((15 : Int32)) h0 n0 (by omega)  G4 G7) hZ (W hw 123) (W hw 32) (by decide) (by decide)) q3a q3c (g := (mkF m 10 #[.val (.ref ea), .val (.ref sb), .val .null, .val (.ref vb), .unset] [(.ref sb)])) rfl (by rw [hml]; rfl) (Steps.refl _) (argsL := []) (rest := []) (lenOf pd_4 rfl) rfl (by show 2 * 0 + _ ≤ _; exact Nat.le_of_eq rfl) (hb hby d17_10) (fun _ _ => ⟨rfl, hs2, (by decide : 0 + 0 ≤ _), (by decide : 0 + 0 ≤ _)⟩)
  dsimp only [Pt.U, Pt.locs, Pt.cells, Pt.slots] at X3 l3 y3 z3 st3 hQ3
  subst l3 y3 z3
  obtain ⟨rfl, Nq3, hs3⟩ := hQ3
  have N3 := Fr.app N2 Nq3
  refine Comes.go st3 ?_
  show Comes p e below _ (T3.setTop (mkF m 13 #[.val (.ref ea), .val (.ref sb), .val .null, .val (.ref vb), .unset] [(.int (15 : Int32))]))
  refine Comes.st (fun t k => XS.istore X3.here hx rfl (hb hby d17_13) rfl (l' := #[.val (.ref ea), .val (.ref sb), .val .null, .val (.ref vb), .val (.int (15 : Int32))]) rfl (XS.aloadN X3.here hx rfl (hb hby d17_15) rfl rfl k)) ?_
  show Comes p e below _ (T3.setTop (mkF m 16 #[.val (.ref ea), .val (.ref sb), .val .null, .val (.ref vb), .val (.int (15 : Int32))] [(.ref sb)]))
  obtain ⟨cq4, kq4, q4a, q4b, q4c⟩ := isOf hZ hs3 G4
  obtain ⟨_, _, ⟨T4, L4, k4, n4⟩, -, X4, ⟨Lc4, hQ4, l4, y4, z4⟩, st4⟩ := X3.virtualBack hx (y := (⟨"java/lang/AbstractStringBuilder", "isLatin1", "()Z"⟩ : MethodName)) (z := (⟨"java/lang/AbstractStringBuilder", "isLatin1", "()Z"⟩ : MethodName)) hown (mvT hZ (W hw 126)) (mvT hZ (W hw 127)) (notFace_of_selects (args := #[]) (mvT hZ (W hw 129))) (mvT hZ (W hw 129)) (mvT hZ (W hw 128)) (by decide) (backOf (W := 0) (rm21 l Z a0 hw [] sb cs h0 n0 (by omega)  G4 G6 G11 (by assumption) G13) hZ (W hw 130) (W hw 40) (by decide) (by decide)) q4a q4c (g := (mkF m 16 #[.val (.ref ea), .val (.ref sb), .val .null, .val (.ref vb), .val (.int (15 : Int32))] [(.ref sb)])) rfl (by rw [hml]; rfl) (Steps.refl _) (argsL := []) (rest := []) (lenOf pd_11 rfl) rfl (by show 2 * 0 + _ ≤ _; exact Nat.le_of_eq rfl) (hb hby d17_16) (fun _ _ => ⟨rfl, hs3, (by decide : 0 + 0 ≤ _), (by decide : 0 + 0 ≤ _)⟩)
  dsimp only [Pt.U, Pt.locs, Pt.cells, Pt.slots] at X4 l4 y4 z4 st4 hQ4
  subst l4 y4 z4
  obtain ⟨rfl, Nq4, hs4⟩ := hQ4
  have N4 := Fr.app N3 Nq4
  refine Comes.go st4 ?_
  show Comes p e below _ (T4.setTop (mkF m 19 #[.val (.ref ea), .val (.ref sb), .val .null, .val (.ref vb), .val (.int (15 : Int32))] [(.int (1 : Int32))]))
  have hc19_5 : ¬ ((1 : Int32) = (0 : Int32)) := by decide
  refine Comes.st (fun t k => XS.ifNo X4.here hx rfl (hb hby d17_19) rfl ((if0 _ _).trans (feq hc19_5).1) (XS.aloadN X4.here hx rfl (hb hby d17_22) rfl rfl (XS.iconst X4.here hx rfl (hb hby d17_23) k))) ?_
  show Comes p e below _ (T4.setTop (mkF m 24 #[.val (.ref ea), .val (.ref sb), .val .null, .val (.ref vb), .val (.int (15 : Int32))] [(.int (0 : Int32)), (.ref ea)]))
  obtain ⟨T6, h6, X6, e6, W6, st6⟩ := putFN X4 hx hZ hown (W hw 70) Via.refl hs4 G2 G0 (Or.inr ⟨(W hw 16), rfl, hnm⟩) (W hw 13) (ty := .byte) (v' := (.int (nar .byte (0 : Int32)))) (by decide) rfl (fits_nar_byte _) (g := (mkF m 24 #[.val (.ref ea), .val (.ref sb), .val .null, .val (.ref vb), .val (.int (15 : Int32))] [(.int (0 : Int32)), (.ref ea)])) rfl rfl (hb hby d17_24)
  have Fw6 := G2.same W6
  rw [show (nar .byte (0 : Int32)) = (0 : Int32) from by decide] at Fw6
  have z6 : h6.size = h0.size := W6.size
  have gn7 : n0 ≤ ea := by omega
  have N6 := Fr.snoc X6 N4 gn7
  have K6 : Keep h0 h6 [ea] := K0.wr W6 (Or.inl (List.mem_of_getElem? (i := 0) rfl))
  refine Comes.st st6 ?_
  show Comes p e below _ (T6.setTop (mkF m 27 #[.val (.ref ea), .val (.ref sb), .val .null, .val (.ref vb), .val (.int (15 : Int32))] []))
  refine Comes.st (fun t k => XS.aloadN X6.here hx rfl (hb hby d17_27) rfl rfl (XS.aloadN X6.here hx rfl (hb hby d17_28) rfl rfl (XS.iconst X6.here hx rfl (hb hby d17_29) (XS.iload X6.here hx rfl (hb hby d17_30) rfl k)))) ?_
  show Comes p e below _ (T6.setTop (mkF m 32 #[.val (.ref ea), .val (.ref sb), .val .null, .val (.ref vb), .val (.int (15 : Int32))] [(.int (15 : Int32)), (.int (0 : Int32)), (.ref vb), (.ref ea)]))
  have F8 : Arv Z h6 vb kb .byte (16 : Int32) wl (.int (0 : Int32)) := (G8.other W6 G14)
  have F9 : Exa Z h6 vb "[B" := (G9.wr W6)
  obtain ⟨_, _, ⟨T10, L10, k10, n10⟩, -, X10, ⟨Lc10, hQ10, l10, y10, z10⟩, st10⟩ := Jvm.LawKit.callS X6 hx (y := (⟨"java/util/Arrays", "copyOfRange", "([BII)[B"⟩ : MethodName)) hown (mvT hZ (W hw 131)) (mvT hZ (W hw 132)) (mvT hZ (W hw 133)) (mvT hZ (W hw 134)) (by decide) (backOf (W := 1) (cr15 l Z a0 hw [] vb kb wl h6 n0 (by omega)  F8 F9 (by first | assumption | rfl)) hZ (W hw 134) (W hw 133) (by decide) (by decide)) (g := (mkF m 32 #[.val (.ref ea), .val (.ref sb), .val .null, .val (.ref vb), .val (.int (15 : Int32))] [(.int (15 : Int32)), (.int (0 : Int32)), (.ref vb), (.ref ea)])) rfl (by rw [hml]; rfl) (argsL := [(.ref vb), (.int (0 : Int32)), (.int (15 : Int32))]) (rest := [(.ref ea)]) (lenOf pd_9 rfl) rfl (by show 2 * 0 + _ ≤ _; exact Nat.le_of_eq rfl) (hb hby d17_32) (fun _ _ => ⟨rfl, e6, (by decide : 0 + 1 ≤ _), (by decide : 0 + 15 ≤ _)⟩)
  dsimp only [Pt.U, Pt.locs, Pt.cells, Pt.slots] at X10 l10 y10 z10 st10 hQ10
  subst l10 y10 z10
  obtain ⟨o11, rfl, Nq10, Kq10, P10_0⟩ := hQ10
  have N10 := Fr.app N6 Nq10
  have z10k : h6.size ≤ T10.heap.size := Kq10.1
  have K10 : Keep h0 T10.heap [ea] := K6.trans Kq10 all0
  refine Comes.st st10 ?_
  have lt_12 : o11 < T10.heap.size := P10_0.lt
  show Comes p e below _ (T10.setTop (mkF m 35 #[.val (.ref ea), .val (.ref sb), .val .null, .val (.ref vb), .val (.int (15 : Int32))] [(.ref o11), (.ref ea)]))
  have F13 : Exa Z T10.heap ea "java/lang/String" := ((G0.wr W6).keep Kq10)
  have F14 : Fld Z T10.heap ea "java/lang/String" "value" "[B" .null := ((G1.other W6 (Or.inr (slot_ne (Or.inr (W hw 15)) (Or.inr (W hw 16)) (by decide) (t := (.array .byte)) (t' := .byte) (by decide) (by decide)))).keep Kq10 nin0)
  obtain ⟨T15, h15, X15, e15, W15, st15⟩ := putF X10 hx hZ hown (host := "") (Or.inl (W hw 63)) Via.refl rfl F14 F13 (Or.inr ⟨(W hw 15), rfl, hnm⟩) (W hw 13) (ty := (.array .byte)) (by decide) rfl rfl (g := (mkF m 35 #[.val (.ref ea), .val (.ref sb), .val .null, .val (.ref vb), .val (.int (15 : Int32))] [(.ref o11), (.ref ea)])) rfl rfl (hb hby d17_35)
  have Fw15 := F14.same W15
  have z15 : h15.size = T10.heap.size := W15.size
  have N15 := Fr.snoc X15 N10 gn7
  have K15 : Keep h0 h15 [ea] := K10.wr W15 (Or.inl (List.mem_of_getElem? (i := 0) rfl))
  refine Comes.st st15 ?_
  show Comes p e below _ (T15.setTop (mkF m 38 #[.val (.ref ea), .val (.ref sb), .val .null, .val (.ref vb), .val (.int (15 : Int32))] []))
  refine Comes.st (fun t k => XS.goto X15.here hx rfl (pc0 := 38) (pc' := 97) rfl (hb hby d17_38) (by decide) (by decide) k) ?_
  show Comes p e below _ (T15.setTop (mkF m 97 #[.val (.ref ea), .val (.ref sb), .val .null, .val (.ref vb), .val (.int (15 : Int32))] []))
  have F16 : Exa Z h15 ea "java/lang/String" := (F13.wr W15)
  exact Comes.ret0 X15 hx Bd.returns hlk (hb hby d17_97) e15 ⟨rfl, N15, K15, F16⟩ (by decide) (by decide)
def Q_sis15 (Z : State) (ea sb vb : Nat) (kb : ClassId) (wl : List Value) (cs : Int32) (h0 : Heap) (n0 : Nat) (v_ : Option Value) (h : Heap) (L_ : List Loc) : Prop := (v_ = none) ∧ (Fr n0 L_) ∧ (Keep h0 h [ea]) ∧ (Exa Z h ea "java/lang/String")
theorem sis15 (l : Launch) (Z : State) (a0 : Array Value) (hw : ∀ d ∈ tables_1, d.before a0 Z = true) (ws : List Jvm.Cond) (ea sb vb : Nat) (kb : ClassId) (wl : List Value) (cs : Int32) (h0 : Heap) (n0 : Nat) (Z0 : n0 ≤ h0.size) (G0 : Exa Z h0 ea "java/lang/String") (G1 : Fld Z h0 ea "java/lang/String" "value" "[B" .null) (G2 : Fld Z h0 ea "java/lang/String" "coder" "B" (.int (0 : Int32))) (G3 : n0 ≤ ea) (G4 : Exa Z h0 sb "java/lang/StringBuilder") (G5 : Fld Z h0 sb "java/lang/AbstractStringBuilder" "value" "[B" (.ref vb)) (G6 : Fld Z h0 sb "java/lang/AbstractStringBuilder" "coder" "B" (.int (0 : Int32))) (G7 : Fld Z h0 sb "java/lang/AbstractStringBuilder" "count" "I" (.int (15 : Int32))) (G8 : Arv Z h0 vb kb .byte (16 : Int32) wl (.int (0 : Int32))) (G9 : Exa Z h0 vb "[B") (G10 : wl.length = 16) (G11 : Sta Z Z.heap "java/lang/String" "COMPACT_STRINGS" "Z" (.int cs)) (G12 : ¬ (cs = (0 : Int32))) (G13 : Old Z n0 h0) (G14 : vb ≠ ea) (G15 : sb ≠ ea) :
    MetFree l (⟨"java/lang/String", "<init>", "(Ljava/lang/StringBuilder;)V"⟩ : MethodName) (head1 (Jvm.Cond.code (⟨"java/lang/String", "<init>", "(Ljava/lang/StringBuilder;)V"⟩ : MethodName) jdk_42_method_53_code 2 none :: ws) (Rm 4 1 15 74)) (fun a_ U_ => a_ = #[(.ref ea), (.ref sb)] ∧ Z.Warmed39 U_.vm ∧ U_.heap = h0) (fun _ _ _ _ _ => True) (fun _ U_ o_ V_ => ∃ v_ L_, o_ = .returned v_ ∧ Q_sis15 Z ea sb vb kb wl cs h0 n0 v_ V_.heap L_ ∧ FrameEnd U_ o_ V_ L_ (Rm 4 1 15 74).cells (Rm 4 1 15 74).slots) := by
  refine MetFree.of_bodySF (plainFor_of_name pn_16) hisR ?_
  intro p e s m args below meth c s₁ Bd hml0 hP hK
  obtain ⟨rfl, hZ, hh⟩ := hP
  have hx := Bd.exec
  have hby := Bd.bytes
  have hml : c.maxLocals = 2 := hml0
  have hown : s.vm.findClass "java/lang/String" = some m.cls := findClass_of_methodNamed Bd.named
  have hnm := (name_of_methodNamed Bd.named Bd.method).1
  have hlk : meth.locks = false := Bd.notSynchronized
  have X0 : Stand p l e (Rm 4 1 15 74) s m #[(.ref ea), (.ref sb)] below meth c s₁ [] 0 0 := Stand.of_body Bd
  have e0 : s₁.heap = h0 := by rw [← hh, Bd.state]; rfl
  have N0 := Fr.nil n0
  have K0 := Keep.refl h0 [ea]
  refine Comes.out (Q := Q_sis15 Z ea sb vb kb wl cs h0 n0) (kc := (Rm 4 1 15 74).cells) (ks := (Rm 4 1 15 74).slots) ?_
  refine Comes.cast (ef_sis15 m ea sb) ?_
  have lt_ea : ea < h0.size := G0.lt
  have lt_sb : sb < h0.size := G4.lt
  have lt_vb : vb < h0.size := G8.lt
  show Comes p e below _ (s₁.setTop (mkF m 0 #[.val (.ref ea), .val (.ref sb)] []))
  refine Comes.st (fun t k => XS.aloadN X0.here hx rfl (hb hby d16_0) rfl rfl (XS.aloadN X0.here hx rfl (hb hby d16_1) rfl rfl (XS.aconstNull X0.here hx rfl (hb hby d16_2) k))) ?_
  show Comes p e below _ (s₁.setTop (mkF m 3 #[.val (.ref ea), .val (.ref sb)] [.null, (.ref sb), (.ref ea)]))
  obtain ⟨_, _, ⟨T1, L1, k1, n1⟩, -, X1, ⟨Lc1, hQ1, l1, y1, z1⟩, st1⟩ := X0.specialBack hx (y := (⟨"java/lang/String", "<init>", "(Ljava/lang/AbstractStringBuilder;Ljava/lang/Void;)V"⟩ : MethodName)) rfl hown (mvT hZ (W hw 109)) (mvT hZ (W hw 110)) (mvT hZ (W hw 111)) (by decide) (backOf (W := 0) (sia15 l Z a0 hw [] ea sb vb kb wl cs h0 n0 (by omega)  G0 G1 G2 (by omega) G4 G5 G6 G7 G8 G9 (by first | assumption | rfl) G11 (by assumption) G13 G14 G15) hZ (W hw 111) (W hw 12) (by decide) (by decide)) (g := (mkF m 3 #[.val (.ref ea), .val (.ref sb)] [.null, (.ref sb), (.ref ea)])) rfl (by rw [hml]; rfl) (Steps.refl _) (a := ea) (argsL := [(.ref sb), .null]) (rest := []) (lenOf pd_12 rfl) rfl (by show 2 * 0 + _ ≤ _; exact Nat.le_of_eq rfl) (hb hby d16_3) (fun _ _ => ⟨rfl, e0, (by decide : 0 + 1 ≤ _), (by decide : 0 + 15 ≤ _)⟩)
  dsimp only [Pt.U, Pt.locs, Pt.cells, Pt.slots] at X1 l1 y1 z1 st1 hQ1
  subst l1 y1 z1
  obtain ⟨rfl, Nq1, Kq1, P1_0⟩ := hQ1
  have N1 := Fr.app N0 Nq1
  have z1k : h0.size ≤ T1.heap.size := Kq1.1
  have K1 : Keep h0 T1.heap [ea] := K0.trans Kq1 (allS (Or.inl (List.mem_of_getElem? (i := 0) rfl)) all0)
  refine Comes.go st1 ?_
  show Comes p e below _ (T1.setTop (mkF m 6 #[.val (.ref ea), .val (.ref sb)] []))
  exact Comes.ret0 X1 hx Bd.returns hlk (hb hby d16_6) rfl ⟨rfl, N1, K1, P1_0⟩ (by decide) (by decide)
def Q_ts15 (Z : State) (sb vb : Nat) (kb : ClassId) (wl : List Value) (cs : Int32) (h0 : Heap) (n0 : Nat) (v_ : Option Value) (h : Heap) (L_ : List Loc) : Prop := ∃ (r : Nat), (v_ = some (.ref r)) ∧ (Fr n0 L_) ∧ (Keep h0 h []) ∧ (Exa Z h r "java/lang/String")
theorem ts15 (l : Launch) (Z : State) (a0 : Array Value) (hw : ∀ d ∈ tables_1, d.before a0 Z = true) (ws : List Jvm.Cond) (sb vb : Nat) (kb : ClassId) (wl : List Value) (cs : Int32) (h0 : Heap) (n0 : Nat) (Z0 : n0 ≤ h0.size) (G0 : Exa Z h0 sb "java/lang/StringBuilder") (G1 : Fld Z h0 sb "java/lang/AbstractStringBuilder" "value" "[B" (.ref vb)) (G2 : Fld Z h0 sb "java/lang/AbstractStringBuilder" "coder" "B" (.int (0 : Int32))) (G3 : Fld Z h0 sb "java/lang/AbstractStringBuilder" "count" "I" (.int (15 : Int32))) (G4 : Arv Z h0 vb kb .byte (16 : Int32) wl (.int (0 : Int32))) (G5 : Exa Z h0 vb "[B") (G6 : wl.length = 16) (G7 : Sta Z Z.heap "java/lang/String" "COMPACT_STRINGS" "Z" (.int cs)) (G8 : ¬ (cs = (0 : Int32))) (G9 : Old Z n0 h0) :
    MetFree l (⟨"java/lang/StringBuilder", "toString", "()Ljava/lang/String;"⟩ : MethodName) (head1 (Jvm.Cond.code (⟨"java/lang/StringBuilder", "toString", "()Ljava/lang/String;"⟩ : MethodName) jdk_67_method_42_code 1 (some (.object "java/lang/String")) :: ws) (Rm 5 2 19 88)) (fun a_ U_ => a_ = #[(.ref sb)] ∧ Z.Warmed39 U_.vm ∧ U_.heap = h0) (fun _ _ _ _ _ => True) (fun _ U_ o_ V_ => ∃ v_ L_, o_ = .returned v_ ∧ Q_ts15 Z sb vb kb wl cs h0 n0 v_ V_.heap L_ ∧ FrameEnd U_ o_ V_ L_ (Rm 5 2 19 88).cells (Rm 5 2 19 88).slots) := by
  refine MetFree.of_bodySF (plainFor_of_name pn_15) hisR ?_
  intro p e s m args below meth c s₁ Bd hml0 hP hK
  obtain ⟨rfl, hZ, hh⟩ := hP
  have hx := Bd.exec
  have hby := Bd.bytes
  have hml : c.maxLocals = 1 := hml0
  have hown : s.vm.findClass "java/lang/StringBuilder" = some m.cls := findClass_of_methodNamed Bd.named
  have hnm := (name_of_methodNamed Bd.named Bd.method).1
  have hlk : meth.locks = false := Bd.notSynchronized
  have X0 : Stand p l e (Rm 5 2 19 88) s m #[(.ref sb)] below meth c s₁ [] 0 0 := Stand.of_body Bd
  have e0 : s₁.heap = h0 := by rw [← hh, Bd.state]; rfl
  have N0 := Fr.nil n0
  have K0 := Keep.refl h0 []
  refine Comes.out (Q := Q_ts15 Z sb vb kb wl cs h0 n0) (kc := (Rm 5 2 19 88).cells) (ks := (Rm 5 2 19 88).slots) ?_
  refine Comes.cast (ef_ts15 m sb) ?_
  have lt_sb : sb < h0.size := G0.lt
  have lt_vb : vb < h0.size := G4.lt
  show Comes p e below _ (s₁.setTop (mkF m 0 #[.val (.ref sb)] []))
  obtain ⟨T1, h1, X1, e1, E1, A1, D1, -, st1⟩ := newO X0 hx hZ hown (W hw 104) (W hw 13) (W hw 12) e0 (g := (mkF m 0 #[.val (.ref sb)] [])) rfl (hb hby d15_0) (by decide) (by decide)
  obtain ⟨b1, g1⟩ : ∃ z, z = h0.size := ⟨_, rfl⟩
  rw [← g1] at A1 D1 st1
  have z1 : h0.size ≤ h1.size := E1.1
  have lt1 : b1 < h1.size := A1.lt
  have F2 : Fld Z h1 b1 "java/lang/String" "value" "[B" .null := D1 (Or.inr (W hw 15)) (ty := (.array .byte)) (by decide)
  have F3 : Fld Z h1 b1 "java/lang/String" "coder" "B" (.int (0 : Int32)) := D1 (Or.inr (W hw 16)) (ty := .byte) (by decide)
  have K1 : Keep h0 h1 [] := K0.ext E1
  refine Comes.st st1 ?_
  show Comes p e below _ (T1.setTop (mkF m 3 #[.val (.ref sb)] [(.ref b1)]))
  refine Comes.st (fun t k => XS.dup X1.here hx rfl (hb hby d15_3) rfl rfl (XS.aloadN X1.here hx rfl (hb hby d15_4) rfl rfl k)) ?_
  show Comes p e below _ (T1.setTop (mkF m 5 #[.val (.ref sb)] [(.ref sb), (.ref b1), (.ref b1)]))
  have F4 : Exa Z h1 sb "java/lang/StringBuilder" := (G0.ext E1)
  have F5 : Fld Z h1 sb "java/lang/AbstractStringBuilder" "value" "[B" (.ref vb) := (G1.ext E1)
  have F6 : Fld Z h1 sb "java/lang/AbstractStringBuilder" "coder" "B" (.int (0 : Int32)) := (G2.ext E1)
  have F7 : Fld Z h1 sb "java/lang/AbstractStringBuilder" "count" "I" (.int (15 : Int32)) := (G3.ext E1)
  have F8 : Arv Z h1 vb kb .byte (16 : Int32) wl (.int (0 : Int32)) := (G4.ext E1)
  have F9 : Exa Z h1 vb "[B" := (G5.ext E1)
  have Od10 : Old Z n0 h1 := (G9.ext E1)
  have ne11 : vb ≠ b1 := by omega
  have ne12 : sb ≠ b1 := by omega
  obtain ⟨_, _, ⟨T13, L13, k13, n13⟩, -, X13, ⟨Lc13, hQ13, l13, y13, z13⟩, st13⟩ := X1.specialBack hx (y := (⟨"java/lang/String", "<init>", "(Ljava/lang/StringBuilder;)V"⟩ : MethodName)) rfl hown (mvT hZ (W hw 105)) (mvT hZ (W hw 106)) (mvT hZ (W hw 108)) (by decide) (backOf (W := 1) (sis15 l Z a0 hw [] b1 sb vb kb wl cs h1 n0 (by omega)  A1 F2 F3 (by omega) F4 F5 F6 F7 F8 F9 (by first | assumption | rfl) G7 (by assumption) Od10 ne11 ne12) hZ (W hw 108) (W hw 12) (by decide) (by decide)) (g := (mkF m 5 #[.val (.ref sb)] [(.ref sb), (.ref b1), (.ref b1)])) rfl (by rw [hml]; rfl) (Steps.refl _) (a := b1) (argsL := [(.ref sb)]) (rest := [(.ref b1)]) (lenOf pd_13 rfl) rfl (by show 2 * 0 + _ ≤ _; exact Nat.le_of_eq rfl) (hb hby d15_5) (fun _ _ => ⟨rfl, e1, (by decide : 1 + 1 ≤ _), (by decide : 4 + 15 ≤ _)⟩)
  dsimp only [Pt.U, Pt.locs, Pt.cells, Pt.slots] at X13 l13 y13 z13 st13 hQ13
  subst l13 y13 z13
  obtain ⟨rfl, Nq13, Kq13, P13_0⟩ := hQ13
  have N13 := Fr.app N0 Nq13
  have z13k : h1.size ≤ T13.heap.size := Kq13.1
  have gz14 : h0.size ≤ b1 := by omega
  have K13 : Keep h0 T13.heap [] := K1.trans Kq13 (allS (Or.inr gz14) all0)
  refine Comes.go st13 ?_
  have lt_15 : b1 < T13.heap.size := P13_0.lt
  show Comes p e below _ (T13.setTop (mkF m 8 #[.val (.ref sb)] [(.ref b1)]))
  exact Comes.retV X13 hx Bd.returns (narrow_ref rfl) (Or.inr (Or.inr (Or.inr (Or.inr ⟨rfl, rfl, rfl⟩)))) hlk (hb hby d15_8) rfl ⟨b1, rfl, N13, K13, P13_0⟩ (by decide) (by decide)
def Q_sia16 (Z : State) (ea sb vb : Nat) (kb : ClassId) (wl : List Value) (cs : Int32) (h0 : Heap) (n0 : Nat) (v_ : Option Value) (h : Heap) (L_ : List Loc) : Prop := (v_ = none) ∧ (Fr n0 L_) ∧ (Keep h0 h [ea]) ∧ (Exa Z h ea "java/lang/String")
theorem sia16 (l : Launch) (Z : State) (a0 : Array Value) (hw : ∀ d ∈ tables_1, d.before a0 Z = true) (ws : List Jvm.Cond) (ea sb vb : Nat) (kb : ClassId) (wl : List Value) (cs : Int32) (h0 : Heap) (n0 : Nat) (Z0 : n0 ≤ h0.size) (G0 : Exa Z h0 ea "java/lang/String") (G1 : Fld Z h0 ea "java/lang/String" "value" "[B" .null) (G2 : Fld Z h0 ea "java/lang/String" "coder" "B" (.int (0 : Int32))) (G3 : n0 ≤ ea) (G4 : Exa Z h0 sb "java/lang/StringBuilder") (G5 : Fld Z h0 sb "java/lang/AbstractStringBuilder" "value" "[B" (.ref vb)) (G6 : Fld Z h0 sb "java/lang/AbstractStringBuilder" "coder" "B" (.int (0 : Int32))) (G7 : Fld Z h0 sb "java/lang/AbstractStringBuilder" "count" "I" (.int (16 : Int32))) (G8 : Arv Z h0 vb kb .byte (16 : Int32) wl (.int (0 : Int32))) (G9 : Exa Z h0 vb "[B") (G10 : wl.length = 16) (G11 : Sta Z Z.heap "java/lang/String" "COMPACT_STRINGS" "Z" (.int cs)) (G12 : ¬ (cs = (0 : Int32))) (G13 : Old Z n0 h0) (G14 : vb ≠ ea) (G15 : sb ≠ ea) :
    MetFree l (⟨"java/lang/String", "<init>", "(Ljava/lang/AbstractStringBuilder;Ljava/lang/Void;)V"⟩ : MethodName) (head1 (Jvm.Cond.code (⟨"java/lang/String", "<init>", "(Ljava/lang/AbstractStringBuilder;Ljava/lang/Void;)V"⟩ : MethodName) jdk_42_method_150_code 5 none :: ws) (Rm 2 1 16 29)) (fun a_ U_ => a_ = #[(.ref ea), (.ref sb), .null] ∧ Z.Warmed39 U_.vm ∧ U_.heap = h0) (fun _ _ _ _ _ => True) (fun _ U_ o_ V_ => ∃ v_ L_, o_ = .returned v_ ∧ Q_sia16 Z ea sb vb kb wl cs h0 n0 v_ V_.heap L_ ∧ FrameEnd U_ o_ V_ L_ (Rm 2 1 16 29).cells (Rm 2 1 16 29).slots) := by
  refine MetFree.of_bodySF (plainFor_of_name pn_17) hisR ?_
  intro p e s m args below meth c s₁ Bd hml0 hP hK
  obtain ⟨rfl, hZ, hh⟩ := hP
  have hx := Bd.exec
  have hby := Bd.bytes
  have hml : c.maxLocals = 5 := hml0
  have hown : s.vm.findClass "java/lang/String" = some m.cls := findClass_of_methodNamed Bd.named
  have hnm := (name_of_methodNamed Bd.named Bd.method).1
  have hlk : meth.locks = false := Bd.notSynchronized
  have X0 : Stand p l e (Rm 2 1 16 29) s m #[(.ref ea), (.ref sb), .null] below meth c s₁ [] 0 0 := Stand.of_body Bd
  have e0 : s₁.heap = h0 := by rw [← hh, Bd.state]; rfl
  have N0 := Fr.nil n0
  have K0 := Keep.refl h0 [ea]
  refine Comes.out (Q := Q_sia16 Z ea sb vb kb wl cs h0 n0) (kc := (Rm 2 1 16 29).cells) (ks := (Rm 2 1 16 29).slots) ?_
  refine Comes.cast (ef_sia16 m ea sb) ?_
  have lt_ea : ea < h0.size := G0.lt
  have lt_sb : sb < h0.size := G4.lt
  have lt_vb : vb < h0.size := G8.lt
  show Comes p e below _ (s₁.setTop (mkF m 0 #[.val (.ref ea), .val (.ref sb), .val .null, .unset, .unset] []))
  refine Comes.st (fun t k => XS.aloadN X0.here hx rfl (hb hby d17_0) rfl rfl k) ?_
  show Comes p e below _ (s₁.setTop (mkF m 1 #[.val (.ref ea), .val (.ref sb), .val .null, .unset, .unset] [(.ref ea)]))
  obtain ⟨T1, X1, e1, st1⟩ := initO X0 hx hZ hown (W hw 112) (W hw 9) (W hw 10) e0 (g := (mkF m 1 #[.val (.ref ea), .val (.ref sb), .val .null, .unset, .unset] [(.ref ea)])) rfl (by rw [hml]; rfl) rfl (hb hby d17_1) (by decide) (W := 0) (by show 2 * 0 + _ ≤ _; exact Nat.le_of_eq rfl) (by decide)
  refine Comes.st st1 ?_
  show Comes p e below _ (T1.setTop (mkF m 4 #[.val (.ref ea), .val (.ref sb), .val .null, .unset, .unset] []))
  refine Comes.st (fun t k => XS.aloadN X1.here hx rfl (hb hby d17_4) rfl rfl k) ?_
  show Comes p e below _ (T1.setTop (mkF m 5 #[.val (.ref ea), .val (.ref sb), .val .null, .unset, .unset] [(.ref sb)]))
  obtain ⟨cq2, kq2, q2a, q2b, q2c⟩ := isOf hZ e1 G4
  obtain ⟨_, _, ⟨T2, L2, k2, n2⟩, -, X2, ⟨Lc2, hQ2, l2, y2, z2⟩, st2⟩ := X1.virtualBack hx (y := (⟨"java/lang/AbstractStringBuilder", "getValue", "()[B"⟩ : MethodName)) (z := (⟨"java/lang/AbstractStringBuilder", "getValue", "()[B"⟩ : MethodName)) hown (mvT hZ (W hw 113)) (mvT hZ (W hw 114)) (notFace_of_selects (args := #[]) (mvT hZ (W hw 116))) (mvT hZ (W hw 116)) (mvT hZ (W hw 115)) (by decide) (backOf (W := 0) (rm18 l Z a0 hw [] sb vb h0 n0 (by omega)  G4 G5) hZ (W hw 117) (W hw 40) (by decide) (by decide)) q2a q2c (g := (mkF m 5 #[.val (.ref ea), .val (.ref sb), .val .null, .unset, .unset] [(.ref sb)])) rfl (by rw [hml]; rfl) (Steps.refl _) (argsL := []) (rest := []) (lenOf pd_10 rfl) rfl (by show 2 * 0 + _ ≤ _; exact Nat.le_of_eq rfl) (hb hby d17_5) (fun _ _ => ⟨rfl, e1, (by decide : 0 + 0 ≤ _), (by decide : 0 + 0 ≤ _)⟩)
  dsimp only [Pt.U, Pt.locs, Pt.cells, Pt.slots] at X2 l2 y2 z2 st2 hQ2
  subst l2 y2 z2
  obtain ⟨rfl, Nq2, hs2⟩ := hQ2
  have N2 := Fr.app N0 Nq2
  refine Comes.go st2 ?_
  show Comes p e below _ (T2.setTop (mkF m 8 #[.val (.ref ea), .val (.ref sb), .val .null, .unset, .unset] [(.ref vb)]))
  refine Comes.st (fun t k => XS.astoreN X2.here hx rfl (hb hby d17_8) rfl rfl (l' := #[.val (.ref ea), .val (.ref sb), .val .null, .val (.ref vb), .unset]) rfl (XS.aloadN X2.here hx rfl (hb hby d17_9) rfl rfl k)) ?_
  show Comes p e below _ (T2.setTop (mkF m 10 #[.val (.ref ea), .val (.ref sb), .val .null, .val (.ref vb), .unset] [(.ref sb)]))
  obtain ⟨cq3, kq3, q3a, q3b, q3c⟩ := isOf hZ hs2 G4
  obtain ⟨_, _, ⟨T3, L3, k3, n3⟩, -, X3, ⟨Lc3, hQ3, l3, y3, z3⟩, st3⟩ := X2.virtualBack hx (y := (⟨"java/lang/AbstractStringBuilder", "length", "()I"⟩ : MethodName)) (z := (⟨"java/lang/StringBuilder", "length", "()I"⟩ : MethodName)) hown (mvT hZ (W hw 118)) (mvT hZ (W hw 119)) (own_nface (notFace_of_selects (args := #[]) (y := (⟨"java/lang/AbstractStringBuilder", "ensureCapacityInternal", "(I)V"⟩ : MethodName)) (mvT hZ (W hw 76))) (mvT (args := #[]) hZ (W hw 74)) rfl) (mvT hZ (W hw 121)) (mvT hZ (W hw 122)) (by decide) (backOf (W := 0) (rm19 l Z a0 hw [] sb ((16 : Int32)) h0 n0 (by omega)  G4 G7) hZ (W hw 123) (W hw 32) (by decide) (by decide)) q3a q3c (g := (mkF m 10 #[.val (.ref ea), .val (.ref sb), .val .null, .val (.ref vb), .unset] [(.ref sb)])) rfl (by rw [hml]; rfl) (Steps.refl _) (argsL := []) (rest := []) (lenOf pd_4 rfl) rfl (by show 2 * 0 + _ ≤ _; exact Nat.le_of_eq rfl) (hb hby d17_10) (fun _ _ => ⟨rfl, hs2, (by decide : 0 + 0 ≤ _), (by decide : 0 + 0 ≤ _)⟩)
  dsimp only [Pt.U, Pt.locs, Pt.cells, Pt.slots] at X3 l3 y3 z3 st3 hQ3
  subst l3 y3 z3
  obtain ⟨rfl, Nq3, hs3⟩ := hQ3
  have N3 := Fr.app N2 Nq3
  refine Comes.go st3 ?_
  show Comes p e below _ (T3.setTop (mkF m 13 #[.val (.ref ea), .val (.ref sb), .val .null, .val (.ref vb), .unset] [(.int (16 : Int32))]))
  refine Comes.st (fun t k => XS.istore X3.here hx rfl (hb hby d17_13) rfl (l' := #[.val (.ref ea), .val (.ref sb), .val .null, .val (.ref vb), .val (.int (16 : Int32))]) rfl (XS.aloadN X3.here hx rfl (hb hby d17_15) rfl rfl k)) ?_
  show Comes p e below _ (T3.setTop (mkF m 16 #[.val (.ref ea), .val (.ref sb), .val .null, .val (.ref vb), .val (.int (16 : Int32))] [(.ref sb)]))
  obtain ⟨cq4, kq4, q4a, q4b, q4c⟩ := isOf hZ hs3 G4
  obtain ⟨_, _, ⟨T4, L4, k4, n4⟩, -, X4, ⟨Lc4, hQ4, l4, y4, z4⟩, st4⟩ := X3.virtualBack hx (y := (⟨"java/lang/AbstractStringBuilder", "isLatin1", "()Z"⟩ : MethodName)) (z := (⟨"java/lang/AbstractStringBuilder", "isLatin1", "()Z"⟩ : MethodName)) hown (mvT hZ (W hw 126)) (mvT hZ (W hw 127)) (notFace_of_selects (args := #[]) (mvT hZ (W hw 129))) (mvT hZ (W hw 129)) (mvT hZ (W hw 128)) (by decide) (backOf (W := 0) (rm21 l Z a0 hw [] sb cs h0 n0 (by omega)  G4 G6 G11 (by assumption) G13) hZ (W hw 130) (W hw 40) (by decide) (by decide)) q4a q4c (g := (mkF m 16 #[.val (.ref ea), .val (.ref sb), .val .null, .val (.ref vb), .val (.int (16 : Int32))] [(.ref sb)])) rfl (by rw [hml]; rfl) (Steps.refl _) (argsL := []) (rest := []) (lenOf pd_11 rfl) rfl (by show 2 * 0 + _ ≤ _; exact Nat.le_of_eq rfl) (hb hby d17_16) (fun _ _ => ⟨rfl, hs3, (by decide : 0 + 0 ≤ _), (by decide : 0 + 0 ≤ _)⟩)
  dsimp only [Pt.U, Pt.locs, Pt.cells, Pt.slots] at X4 l4 y4 z4 st4 hQ4
  subst l4 y4 z4
  obtain ⟨rfl, Nq4, hs4⟩ := hQ4
  have N4 := Fr.app N3 Nq4
  refine Comes.go st4 ?_
  show Comes p e below _ (T4.setTop (mkF m 19 #[.val (.ref ea), .val (.ref sb), .val .null, .val (.ref vb), .val (.int (16 : Int32))] [(.int (1 : Int32))]))
  have hc19_5 : ¬ ((1 : Int32) = (0 : Int32)) := by decide
  refine Comes.st (fun t k => XS.ifNo X4.here hx rfl (hb hby d17_19) rfl ((if0 _ _).trans (feq hc19_5).1) (XS.aloadN X4.here hx rfl (hb hby d17_22) rfl rfl (XS.iconst X4.here hx rfl (hb hby d17_23) k))) ?_
  show Comes p e below _ (T4.setTop (mkF m 24 #[.val (.ref ea), .val (.ref sb), .val .null, .val (.ref vb), .val (.int (16 : Int32))] [(.int (0 : Int32)), (.ref ea)]))
  obtain ⟨T6, h6, X6, e6, W6, st6⟩ := putFN X4 hx hZ hown (W hw 70) Via.refl hs4 G2 G0 (Or.inr ⟨(W hw 16), rfl, hnm⟩) (W hw 13) (ty := .byte) (v' := (.int (nar .byte (0 : Int32)))) (by decide) rfl (fits_nar_byte _) (g := (mkF m 24 #[.val (.ref ea), .val (.ref sb), .val .null, .val (.ref vb), .val (.int (16 : Int32))] [(.int (0 : Int32)), (.ref ea)])) rfl rfl (hb hby d17_24)
  have Fw6 := G2.same W6
  rw [show (nar .byte (0 : Int32)) = (0 : Int32) from by decide] at Fw6
  have z6 : h6.size = h0.size := W6.size
  have gn7 : n0 ≤ ea := by omega
  have N6 := Fr.snoc X6 N4 gn7
  have K6 : Keep h0 h6 [ea] := K0.wr W6 (Or.inl (List.mem_of_getElem? (i := 0) rfl))
  refine Comes.st st6 ?_
  show Comes p e below _ (T6.setTop (mkF m 27 #[.val (.ref ea), .val (.ref sb), .val .null, .val (.ref vb), .val (.int (16 : Int32))] []))
  refine Comes.st (fun t k => XS.aloadN X6.here hx rfl (hb hby d17_27) rfl rfl (XS.aloadN X6.here hx rfl (hb hby d17_28) rfl rfl (XS.iconst X6.here hx rfl (hb hby d17_29) (XS.iload X6.here hx rfl (hb hby d17_30) rfl k)))) ?_
  show Comes p e below _ (T6.setTop (mkF m 32 #[.val (.ref ea), .val (.ref sb), .val .null, .val (.ref vb), .val (.int (16 : Int32))] [(.int (16 : Int32)), (.int (0 : Int32)), (.ref vb), (.ref ea)]))
  have F8 : Arv Z h6 vb kb .byte (16 : Int32) wl (.int (0 : Int32)) := (G8.other W6 G14)
  have F9 : Exa Z h6 vb "[B" := (G9.wr W6)
  obtain ⟨_, _, ⟨T10, L10, k10, n10⟩, -, X10, ⟨Lc10, hQ10, l10, y10, z10⟩, st10⟩ := Jvm.LawKit.callS X6 hx (y := (⟨"java/util/Arrays", "copyOfRange", "([BII)[B"⟩ : MethodName)) hown (mvT hZ (W hw 131)) (mvT hZ (W hw 132)) (mvT hZ (W hw 133)) (mvT hZ (W hw 134)) (by decide) (backOf (W := 1) (cr16 l Z a0 hw [] vb kb wl h6 n0 (by omega)  F8 F9 (by first | assumption | rfl)) hZ (W hw 134) (W hw 133) (by decide) (by decide)) (g := (mkF m 32 #[.val (.ref ea), .val (.ref sb), .val .null, .val (.ref vb), .val (.int (16 : Int32))] [(.int (16 : Int32)), (.int (0 : Int32)), (.ref vb), (.ref ea)])) rfl (by rw [hml]; rfl) (argsL := [(.ref vb), (.int (0 : Int32)), (.int (16 : Int32))]) (rest := [(.ref ea)]) (lenOf pd_9 rfl) rfl (by show 2 * 0 + _ ≤ _; exact Nat.le_of_eq rfl) (hb hby d17_32) (fun _ _ => ⟨rfl, e6, (by decide : 0 + 1 ≤ _), (by decide : 0 + 16 ≤ _)⟩)
  dsimp only [Pt.U, Pt.locs, Pt.cells, Pt.slots] at X10 l10 y10 z10 st10 hQ10
  subst l10 y10 z10
  obtain ⟨o11, rfl, Nq10, Kq10, P10_0⟩ := hQ10
  have N10 := Fr.app N6 Nq10
  have z10k : h6.size ≤ T10.heap.size := Kq10.1
  have K10 : Keep h0 T10.heap [ea] := K6.trans Kq10 all0
  refine Comes.st st10 ?_
  have lt_12 : o11 < T10.heap.size := P10_0.lt
  show Comes p e below _ (T10.setTop (mkF m 35 #[.val (.ref ea), .val (.ref sb), .val .null, .val (.ref vb), .val (.int (16 : Int32))] [(.ref o11), (.ref ea)]))
  have F13 : Exa Z T10.heap ea "java/lang/String" := ((G0.wr W6).keep Kq10)
  have F14 : Fld Z T10.heap ea "java/lang/String" "value" "[B" .null := ((G1.other W6 (Or.inr (slot_ne (Or.inr (W hw 15)) (Or.inr (W hw 16)) (by decide) (t := (.array .byte)) (t' := .byte) (by decide) (by decide)))).keep Kq10 nin0)
  obtain ⟨T15, h15, X15, e15, W15, st15⟩ := putF X10 hx hZ hown (host := "") (Or.inl (W hw 63)) Via.refl rfl F14 F13 (Or.inr ⟨(W hw 15), rfl, hnm⟩) (W hw 13) (ty := (.array .byte)) (by decide) rfl rfl (g := (mkF m 35 #[.val (.ref ea), .val (.ref sb), .val .null, .val (.ref vb), .val (.int (16 : Int32))] [(.ref o11), (.ref ea)])) rfl rfl (hb hby d17_35)
  have Fw15 := F14.same W15
  have z15 : h15.size = T10.heap.size := W15.size
  have N15 := Fr.snoc X15 N10 gn7
  have K15 : Keep h0 h15 [ea] := K10.wr W15 (Or.inl (List.mem_of_getElem? (i := 0) rfl))
  refine Comes.st st15 ?_
  show Comes p e below _ (T15.setTop (mkF m 38 #[.val (.ref ea), .val (.ref sb), .val .null, .val (.ref vb), .val (.int (16 : Int32))] []))
  refine Comes.st (fun t k => XS.goto X15.here hx rfl (pc0 := 38) (pc' := 97) rfl (hb hby d17_38) (by decide) (by decide) k) ?_
  show Comes p e below _ (T15.setTop (mkF m 97 #[.val (.ref ea), .val (.ref sb), .val .null, .val (.ref vb), .val (.int (16 : Int32))] []))
  have F16 : Exa Z h15 ea "java/lang/String" := (F13.wr W15)
  exact Comes.ret0 X15 hx Bd.returns hlk (hb hby d17_97) e15 ⟨rfl, N15, K15, F16⟩ (by decide) (by decide)
def Q_sis16 (Z : State) (ea sb vb : Nat) (kb : ClassId) (wl : List Value) (cs : Int32) (h0 : Heap) (n0 : Nat) (v_ : Option Value) (h : Heap) (L_ : List Loc) : Prop := (v_ = none) ∧ (Fr n0 L_) ∧ (Keep h0 h [ea]) ∧ (Exa Z h ea "java/lang/String")
theorem sis16 (l : Launch) (Z : State) (a0 : Array Value) (hw : ∀ d ∈ tables_1, d.before a0 Z = true) (ws : List Jvm.Cond) (ea sb vb : Nat) (kb : ClassId) (wl : List Value) (cs : Int32) (h0 : Heap) (n0 : Nat) (Z0 : n0 ≤ h0.size) (G0 : Exa Z h0 ea "java/lang/String") (G1 : Fld Z h0 ea "java/lang/String" "value" "[B" .null) (G2 : Fld Z h0 ea "java/lang/String" "coder" "B" (.int (0 : Int32))) (G3 : n0 ≤ ea) (G4 : Exa Z h0 sb "java/lang/StringBuilder") (G5 : Fld Z h0 sb "java/lang/AbstractStringBuilder" "value" "[B" (.ref vb)) (G6 : Fld Z h0 sb "java/lang/AbstractStringBuilder" "coder" "B" (.int (0 : Int32))) (G7 : Fld Z h0 sb "java/lang/AbstractStringBuilder" "count" "I" (.int (16 : Int32))) (G8 : Arv Z h0 vb kb .byte (16 : Int32) wl (.int (0 : Int32))) (G9 : Exa Z h0 vb "[B") (G10 : wl.length = 16) (G11 : Sta Z Z.heap "java/lang/String" "COMPACT_STRINGS" "Z" (.int cs)) (G12 : ¬ (cs = (0 : Int32))) (G13 : Old Z n0 h0) (G14 : vb ≠ ea) (G15 : sb ≠ ea) :
    MetFree l (⟨"java/lang/String", "<init>", "(Ljava/lang/StringBuilder;)V"⟩ : MethodName) (head1 (Jvm.Cond.code (⟨"java/lang/String", "<init>", "(Ljava/lang/StringBuilder;)V"⟩ : MethodName) jdk_42_method_53_code 2 none :: ws) (Rm 3 1 16 45)) (fun a_ U_ => a_ = #[(.ref ea), (.ref sb)] ∧ Z.Warmed39 U_.vm ∧ U_.heap = h0) (fun _ _ _ _ _ => True) (fun _ U_ o_ V_ => ∃ v_ L_, o_ = .returned v_ ∧ Q_sis16 Z ea sb vb kb wl cs h0 n0 v_ V_.heap L_ ∧ FrameEnd U_ o_ V_ L_ (Rm 3 1 16 45).cells (Rm 3 1 16 45).slots) := by
  refine MetFree.of_bodySF (plainFor_of_name pn_16) hisR ?_
  intro p e s m args below meth c s₁ Bd hml0 hP hK
  obtain ⟨rfl, hZ, hh⟩ := hP
  have hx := Bd.exec
  have hby := Bd.bytes
  have hml : c.maxLocals = 2 := hml0
  have hown : s.vm.findClass "java/lang/String" = some m.cls := findClass_of_methodNamed Bd.named
  have hnm := (name_of_methodNamed Bd.named Bd.method).1
  have hlk : meth.locks = false := Bd.notSynchronized
  have X0 : Stand p l e (Rm 3 1 16 45) s m #[(.ref ea), (.ref sb)] below meth c s₁ [] 0 0 := Stand.of_body Bd
  have e0 : s₁.heap = h0 := by rw [← hh, Bd.state]; rfl
  have N0 := Fr.nil n0
  have K0 := Keep.refl h0 [ea]
  refine Comes.out (Q := Q_sis16 Z ea sb vb kb wl cs h0 n0) (kc := (Rm 3 1 16 45).cells) (ks := (Rm 3 1 16 45).slots) ?_
  refine Comes.cast (ef_sis16 m ea sb) ?_
  have lt_ea : ea < h0.size := G0.lt
  have lt_sb : sb < h0.size := G4.lt
  have lt_vb : vb < h0.size := G8.lt
  show Comes p e below _ (s₁.setTop (mkF m 0 #[.val (.ref ea), .val (.ref sb)] []))
  refine Comes.st (fun t k => XS.aloadN X0.here hx rfl (hb hby d16_0) rfl rfl (XS.aloadN X0.here hx rfl (hb hby d16_1) rfl rfl (XS.aconstNull X0.here hx rfl (hb hby d16_2) k))) ?_
  show Comes p e below _ (s₁.setTop (mkF m 3 #[.val (.ref ea), .val (.ref sb)] [.null, (.ref sb), (.ref ea)]))
  obtain ⟨_, _, ⟨T1, L1, k1, n1⟩, -, X1, ⟨Lc1, hQ1, l1, y1, z1⟩, st1⟩ := X0.specialBack hx (y := (⟨"java/lang/String", "<init>", "(Ljava/lang/AbstractStringBuilder;Ljava/lang/Void;)V"⟩ : MethodName)) rfl hown (mvT hZ (W hw 109)) (mvT hZ (W hw 110)) (mvT hZ (W hw 111)) (by decide) (backOf (W := 0) (sia16 l Z a0 hw [] ea sb vb kb wl cs h0 n0 (by omega)  G0 G1 G2 (by omega) G4 G5 G6 G7 G8 G9 (by first | assumption | rfl) G11 (by assumption) G13 G14 G15) hZ (W hw 111) (W hw 12) (by decide) (by decide)) (g := (mkF m 3 #[.val (.ref ea), .val (.ref sb)] [.null, (.ref sb), (.ref ea)])) rfl (by rw [hml]; rfl) (Steps.refl _) (a := ea) (argsL := [(.ref sb), .null]) (rest := []) (lenOf pd_12 rfl) rfl (by show 2 * 0 + _ ≤ _; exact Nat.le_of_eq rfl) (hb hby d16_3) (fun _ _ => ⟨rfl, e0, (by decide : 0 + 1 ≤ _), (by decide : 0 + 16 ≤ _)⟩)
  dsimp only [Pt.U, Pt.locs, Pt.cells, Pt.slots] at X1 l1 y1 z1 st1 hQ1
  subst l1 y1 z1
  obtain ⟨rfl, Nq1, Kq1, P1_0⟩ := hQ1
  have N1 := Fr.app N0 Nq1
  have z1k : h0.size ≤ T1.heap.size := Kq1.1
  have K1 : Keep h0 T1.heap [ea] := K0.trans Kq1 (allS (Or.inl (List.mem_of_getElem? (i := 0) rfl)) all0)
  refine Comes.go st1 ?_
  show Comes p e below _ (T1.setTop (mkF m 6 #[.val (.ref ea), .val (.ref sb)] []))
  exact Comes.ret0 X1 hx Bd.returns hlk (hb hby d16_6) rfl ⟨rfl, N1, K1, P1_0⟩ (by decide) (by decide)
def Q_ts16 (Z : State) (sb vb : Nat) (kb : ClassId) (wl : List Value) (cs : Int32) (h0 : Heap) (n0 : Nat) (v_ : Option Value) (h : Heap) (L_ : List Loc) : Prop := ∃ (r : Nat), (v_ = some (.ref r)) ∧ (Fr n0 L_) ∧ (Keep h0 h []) ∧ (Exa Z h r "java/lang/String")
theorem ts16 (l : Launch) (Z : State) (a0 : Array Value) (hw : ∀ d ∈ tables_1, d.before a0 Z = true) (ws : List Jvm.Cond) (sb vb : Nat) (kb : ClassId) (wl : List Value) (cs : Int32) (h0 : Heap) (n0 : Nat) (Z0 : n0 ≤ h0.size) (G0 : Exa Z h0 sb "java/lang/StringBuilder") (G1 : Fld Z h0 sb "java/lang/AbstractStringBuilder" "value" "[B" (.ref vb)) (G2 : Fld Z h0 sb "java/lang/AbstractStringBuilder" "coder" "B" (.int (0 : Int32))) (G3 : Fld Z h0 sb "java/lang/AbstractStringBuilder" "count" "I" (.int (16 : Int32))) (G4 : Arv Z h0 vb kb .byte (16 : Int32) wl (.int (0 : Int32))) (G5 : Exa Z h0 vb "[B") (G6 : wl.length = 16) (G7 : Sta Z Z.heap "java/lang/String" "COMPACT_STRINGS" "Z" (.int cs)) (G8 : ¬ (cs = (0 : Int32))) (G9 : Old Z n0 h0) :
    MetFree l (⟨"java/lang/StringBuilder", "toString", "()Ljava/lang/String;"⟩ : MethodName) (head1 (Jvm.Cond.code (⟨"java/lang/StringBuilder", "toString", "()Ljava/lang/String;"⟩ : MethodName) jdk_67_method_42_code 1 (some (.object "java/lang/String")) :: ws) (Rm 4 2 20 59)) (fun a_ U_ => a_ = #[(.ref sb)] ∧ Z.Warmed39 U_.vm ∧ U_.heap = h0) (fun _ _ _ _ _ => True) (fun _ U_ o_ V_ => ∃ v_ L_, o_ = .returned v_ ∧ Q_ts16 Z sb vb kb wl cs h0 n0 v_ V_.heap L_ ∧ FrameEnd U_ o_ V_ L_ (Rm 4 2 20 59).cells (Rm 4 2 20 59).slots) := by
  refine MetFree.of_bodySF (plainFor_of_name pn_15) hisR ?_
  intro p e s m args below meth c s₁ Bd hml0 hP hK
  obtain ⟨rfl, hZ, hh⟩ := hP
  have hx := Bd.exec
  have hby := Bd.bytes
  have hml : c.maxLocals = 1 := hml0
  have hown : s.vm.findClass "java/lang/StringBuilder" = some m.cls := findClass_of_methodNamed Bd.named
  have hnm := (name_of_methodNamed Bd.named Bd.method).1
  have hlk : meth.locks = false := Bd.notSynchronized
  have X0 : Stand p l e (Rm 4 2 20 59) s m #[(.ref sb)] below meth c s₁ [] 0 0 := Stand.of_body Bd
  have e0 : s₁.heap = h0 := by rw [← hh, Bd.state]; rfl
  have N0 := Fr.nil n0
  have K0 := Keep.refl h0 []
  refine Comes.out (Q := Q_ts16 Z sb vb kb wl cs h0 n0) (kc := (Rm 4 2 20 59).cells) (ks := (Rm 4 2 20 59).slots) ?_
  refine Comes.cast (ef_ts16 m sb) ?_
  have lt_sb : sb < h0.size := G0.lt
  have lt_vb : vb < h0.size := G4.lt
  show Comes p e below _ (s₁.setTop (mkF m 0 #[.val (.ref sb)] []))
  obtain ⟨T1, h1, X1, e1, E1, A1, D1, -, st1⟩ := newO X0 hx hZ hown (W hw 104) (W hw 13) (W hw 12) e0 (g := (mkF m 0 #[.val (.ref sb)] [])) rfl (hb hby d15_0) (by decide) (by decide)
  obtain ⟨b1, g1⟩ : ∃ z, z = h0.size := ⟨_, rfl⟩
  rw [← g1] at A1 D1 st1
  have z1 : h0.size ≤ h1.size := E1.1
  have lt1 : b1 < h1.size := A1.lt
  have F2 : Fld Z h1 b1 "java/lang/String" "value" "[B" .null := D1 (Or.inr (W hw 15)) (ty := (.array .byte)) (by decide)
  have F3 : Fld Z h1 b1 "java/lang/String" "coder" "B" (.int (0 : Int32)) := D1 (Or.inr (W hw 16)) (ty := .byte) (by decide)
  have K1 : Keep h0 h1 [] := K0.ext E1
  refine Comes.st st1 ?_
  show Comes p e below _ (T1.setTop (mkF m 3 #[.val (.ref sb)] [(.ref b1)]))
  refine Comes.st (fun t k => XS.dup X1.here hx rfl (hb hby d15_3) rfl rfl (XS.aloadN X1.here hx rfl (hb hby d15_4) rfl rfl k)) ?_
  show Comes p e below _ (T1.setTop (mkF m 5 #[.val (.ref sb)] [(.ref sb), (.ref b1), (.ref b1)]))
  have F4 : Exa Z h1 sb "java/lang/StringBuilder" := (G0.ext E1)
  have F5 : Fld Z h1 sb "java/lang/AbstractStringBuilder" "value" "[B" (.ref vb) := (G1.ext E1)
  have F6 : Fld Z h1 sb "java/lang/AbstractStringBuilder" "coder" "B" (.int (0 : Int32)) := (G2.ext E1)
  have F7 : Fld Z h1 sb "java/lang/AbstractStringBuilder" "count" "I" (.int (16 : Int32)) := (G3.ext E1)
  have F8 : Arv Z h1 vb kb .byte (16 : Int32) wl (.int (0 : Int32)) := (G4.ext E1)
  have F9 : Exa Z h1 vb "[B" := (G5.ext E1)
  have Od10 : Old Z n0 h1 := (G9.ext E1)
  have ne11 : vb ≠ b1 := by omega
  have ne12 : sb ≠ b1 := by omega
  obtain ⟨_, _, ⟨T13, L13, k13, n13⟩, -, X13, ⟨Lc13, hQ13, l13, y13, z13⟩, st13⟩ := X1.specialBack hx (y := (⟨"java/lang/String", "<init>", "(Ljava/lang/StringBuilder;)V"⟩ : MethodName)) rfl hown (mvT hZ (W hw 105)) (mvT hZ (W hw 106)) (mvT hZ (W hw 108)) (by decide) (backOf (W := 1) (sis16 l Z a0 hw [] b1 sb vb kb wl cs h1 n0 (by omega)  A1 F2 F3 (by omega) F4 F5 F6 F7 F8 F9 (by first | assumption | rfl) G7 (by assumption) Od10 ne11 ne12) hZ (W hw 108) (W hw 12) (by decide) (by decide)) (g := (mkF m 5 #[.val (.ref sb)] [(.ref sb), (.ref b1), (.ref b1)])) rfl (by rw [hml]; rfl) (Steps.refl _) (a := b1) (argsL := [(.ref sb)]) (rest := [(.ref b1)]) (lenOf pd_13 rfl) rfl (by show 2 * 0 + _ ≤ _; exact Nat.le_of_eq rfl) (hb hby d15_5) (fun _ _ => ⟨rfl, e1, (by decide : 1 + 1 ≤ _), (by decide : 4 + 16 ≤ _)⟩)
  dsimp only [Pt.U, Pt.locs, Pt.cells, Pt.slots] at X13 l13 y13 z13 st13 hQ13
  subst l13 y13 z13
  obtain ⟨rfl, Nq13, Kq13, P13_0⟩ := hQ13
  have N13 := Fr.app N0 Nq13
  have z13k : h1.size ≤ T13.heap.size := Kq13.1
  have gz14 : h0.size ≤ b1 := by omega
  have K13 : Keep h0 T13.heap [] := K1.trans Kq13 (allS (Or.inr gz14) all0)
  refine Comes.go st13 ?_
  have lt_15 : b1 < T13.heap.size := P13_0.lt
  show Comes p e below _ (T13.setTop (mkF m 8 #[.val (.ref sb)] [(.ref b1)]))
  exact Comes.retV X13 hx Bd.returns (narrow_ref rfl) (Or.inr (Or.inr (Or.inr (Or.inr ⟨rfl, rfl, rfl⟩)))) hlk (hb hby d15_8) rfl ⟨b1, rfl, N13, K13, P13_0⟩ (by decide) (by decide)
def Q_rm3 (Z : State) (ob ms : Nat) (h0 : Heap) (n0 : Nat) (v_ : Option Value) (h : Heap) (L_ : List Loc) : Prop := (v_ = some (.ref ob)) ∧ (Fr n0 L_) ∧ (h = h0)
theorem rm3 (l : Launch) (Z : State) (a0 : Array Value) (hw : ∀ d ∈ tables_1, d.before a0 Z = true) (ws : List Jvm.Cond) (ob ms : Nat) (h0 : Heap) (n0 : Nat) (Z0 : n0 ≤ h0.size) :
    MetFree l (⟨"java/util/Objects", "requireNonNull", "(Ljava/lang/Object;Ljava/lang/String;)Ljava/lang/Object;"⟩ : MethodName) (head1 (Jvm.Cond.code (⟨"java/util/Objects", "requireNonNull", "(Ljava/lang/Object;Ljava/lang/String;)Ljava/lang/Object;"⟩ : MethodName) jdk_31_method_11_code 2 (some (.object "java/lang/Object")) :: ws) (Rm 0 0 0 0)) (fun a_ U_ => a_ = #[(.ref ob), (.ref ms)] ∧ Z.Warmed39 U_.vm ∧ U_.heap = h0) (fun _ _ _ _ _ => True) (fun _ U_ o_ V_ => ∃ v_ L_, o_ = .returned v_ ∧ Q_rm3 Z ob ms h0 n0 v_ V_.heap L_ ∧ FrameEnd U_ o_ V_ L_ (Rm 0 0 0 0).cells (Rm 0 0 0 0).slots) := by
  refine MetFree.of_bodySF (plainFor_of_name pn_3) hisR ?_
  intro p e s m args below meth c s₁ Bd hml0 hP hK
  obtain ⟨rfl, hZ, hh⟩ := hP
  have hx := Bd.exec
  have hby := Bd.bytes
  have hml : c.maxLocals = 2 := hml0
  have hown : s.vm.findClass "java/util/Objects" = some m.cls := findClass_of_methodNamed Bd.named
  have hnm := (name_of_methodNamed Bd.named Bd.method).1
  have hlk : meth.locks = false := Bd.notSynchronized
  have X0 : Stand p l e (Rm 0 0 0 0) s m #[(.ref ob), (.ref ms)] below meth c s₁ [] 0 0 := Stand.of_body Bd
  have e0 : s₁.heap = h0 := by rw [← hh, Bd.state]; rfl
  have N0 := Fr.nil n0
  refine Comes.out (Q := Q_rm3 Z ob ms h0 n0) (kc := (Rm 0 0 0 0).cells) (ks := (Rm 0 0 0 0).slots) ?_
  refine Comes.cast (ef_rm3 m ob ms) ?_
  show Comes p e below _ (s₁.setTop (mkF m 0 #[.val (.ref ob), .val (.ref ms)] []))
  refine Comes.st (fun t k => XS.aloadN X0.here hx rfl (hb hby d3_0) rfl rfl (XS.ifnonnullYes X0.here hx rfl (pc0 := 1) (pc' := 13) rfl (hb hby d3_1) rfl (by decide) (by decide) (XS.aloadN X0.here hx rfl (hb hby d3_13) rfl rfl k))) ?_
  show Comes p e below _ (s₁.setTop (mkF m 14 #[.val (.ref ob), .val (.ref ms)] [(.ref ob)]))
  exact Comes.retV X0 hx Bd.returns (narrow_ref rfl) (Or.inr (Or.inr (Or.inr (Or.inr ⟨rfl, rfl, rfl⟩)))) hlk (hb hby d3_14) e0 ⟨rfl, N0, rfl⟩ (by decide) (by decide)
def Q_rm28 (Z : State)  (h0 : Heap) (n0 : Nat) (v_ : Option Value) (h : Heap) (L_ : List Loc) : Prop := (v_ = some (.int (1 : Int32))) ∧ (Fr n0 L_) ∧ (h = h0)
theorem rm28 (l : Launch) (Z : State) (a0 : Array Value) (hw : ∀ d ∈ tables_1, d.before a0 Z = true) (ws : List Jvm.Cond)  (h0 : Heap) (n0 : Nat) (Z0 : n0 ≤ h0.size) :
    MetFree l (⟨"java/lang/Double", "isFinite", "(D)Z"⟩ : MethodName) (head1 (Jvm.Cond.code (⟨"java/lang/Double", "isFinite", "(D)Z"⟩ : MethodName) jdk_117_method_8_code 2 (some .boolean) :: ws) (Rm 1 0 0 13)) (fun a_ U_ => a_ = #[(.double (0 : UInt64))] ∧ Z.Warmed39 U_.vm ∧ U_.heap = h0) (fun _ _ _ _ _ => True) (fun _ U_ o_ V_ => ∃ v_ L_, o_ = .returned v_ ∧ Q_rm28 Z  h0 n0 v_ V_.heap L_ ∧ FrameEnd U_ o_ V_ L_ (Rm 1 0 0 13).cells (Rm 1 0 0 13).slots) := by
  refine MetFree.of_bodySF (plainFor_of_name pn_28) hisR ?_
  intro p e s m args below meth c s₁ Bd hml0 hP hK
  obtain ⟨rfl, hZ, hh⟩ := hP
  have hx := Bd.exec
  have hby := Bd.bytes
  have hml : c.maxLocals = 2 := hml0
  have hown : s.vm.findClass "java/lang/Double" = some m.cls := findClass_of_methodNamed Bd.named
  have hnm := (name_of_methodNamed Bd.named Bd.method).1
  have hlk : meth.locks = false := Bd.notSynchronized
  have X0 : Stand p l e (Rm 1 0 0 13) s m #[(.double (0 : UInt64))] below meth c s₁ [] 0 0 := Stand.of_body Bd
  have e0 : s₁.heap = h0 := by rw [← hh, Bd.state]; rfl
  have N0 := Fr.nil n0
  refine Comes.out (Q := Q_rm28 Z  h0 n0) (kc := (Rm 1 0 0 13).cells) (ks := (Rm 1 0 0 13).slots) ?_
  refine Comes.cast (ef_rm28 m ) ?_
  show Comes p e below _ (s₁.setTop (mkF m 0 #[.val (.double (0 : UInt64)), .second] []))
  refine Comes.st (fun t k => XS.dloadN X0.here hx rfl (hb hby d28_0) rfl k) ?_
  show Comes p e below _ (s₁.setTop (mkF m 1 #[.val (.double (0 : UInt64)), .second] [(.double (0 : UInt64))]))
  obtain ⟨_, vm1, _, -, X1, ⟨rfl, rfl⟩, st1⟩ := Jvm.LawKit.callS X0 hx (y := Jvm.Free.Fl.Abs.absDN) hown (mvT hZ (W hw 182)) (mvT hZ (W hw 183)) (mvT hZ (W hw 143)) (mvT hZ (W hw 184)) (by decide) (Jvm.Free.Fl.Abs.absD_pays (W := 0) (0 : UInt64) (mvT hZ (W hw 184)) (by decide) (by decide)) (g := (mkF m 1 #[.val (.double (0 : UInt64)), .second] [(.double (0 : UInt64))])) rfl (by rw [hml]; rfl) (argsL := [(.double (0 : UInt64))]) (rest := []) (lenOf pd_14 rfl) rfl (by show 2 * 0 + _ ≤ _; exact Nat.le_of_eq rfl) (hb hby d28_1) (fun _ _ => ⟨(by decide : 0 ≤ _), (by decide : 0 ≤ _), rfl, (show (0 : UInt64) &&& 0x7fffffffffffffff ≤ 0x7ff0000000000000 by decide +kernel)⟩)
  dsimp only [Pt.U, Pt.locs, Pt.cells, Pt.slots] at X1 st1
  have e1 : (s₁.setVm vm1).heap = h0 := e0
  refine Comes.st st1 ?_
  generalize s₁.setVm vm1 = T1 at X1 e1 ⊢
  show Comes p e below _ (T1.setTop (mkF m 4 #[.val (.double (0 : UInt64)), .second] [(.double (0 : UInt64))]))
  show Comes p e below _ (T1.setTop (mkF m 4 #[.val (.double (0 : UInt64)), .second] [(.double (0 : UInt64))]))
  refine Comes.st (fun t k => X1.ldc2DoubleC hx hown (mvT hZ (W hw 185)) (g := (mkF m 4 #[.val (.double (0 : UInt64)), .second] [(.double (0 : UInt64))])) rfl (hb hby d28_4) _ k) ?_
  show Comes p e below _ (T1.setTop (mkF m 7 #[.val (.double (0 : UInt64)), .second] [(.double (9218868437227405311 : UInt64)), (.double (0 : UInt64))]))
  refine Comes.st (fun t k => XS.dcmpS X1.here hx rfl (hb hby d28_7) (v := (-1 : Int32)) rfl (by decide +kernel) k) ?_
  show Comes p e below _ (T1.setTop (mkF m 8 #[.val (.double (0 : UInt64)), .second] [(.int (-1 : Int32))]))
  have hc8_2 : ¬ ((0 : Int32) < (-1 : Int32)) := by decide
  refine Comes.st (fun t k => XS.ifNo X1.here hx rfl (hb hby d28_8) rfl ((if0 _ _).trans (flt hc8_2).2.2.1) (XS.iconst X1.here hx rfl (hb hby d28_11) (XS.goto X1.here hx rfl (pc0 := 12) (pc' := 16) rfl (hb hby d28_12) (by decide) (by decide) k))) ?_
  show Comes p e below _ (T1.setTop (mkF m 16 #[.val (.double (0 : UInt64)), .second] [(.int (1 : Int32))]))
  exact Comes.retN X1 hx (t := .boolean) Bd.returns (by simp) hlk (hb hby d28_16) e1 ⟨rfl, N0, rfl⟩ (by decide) (by decide)
def Q_fb1 (Z : State) (xa : Nat) (mn : UInt64) (ka : ClassId) (cm : Int32) (h0 : Heap) (n0 : Nat) (v_ : Option Value) (h : Heap) (L_ : List Loc) : Prop := (v_ = some (.int (-1 : Int32))) ∧ (Fr n0 L_) ∧ (h = h0)
theorem fb1 (l : Launch) (Z : State) (a0 : Array Value) (hw : ∀ d ∈ tables_1, d.before a0 Z = true) (ws : List Jvm.Cond) (xa : Nat) (mn : UInt64) (ka : ClassId) (cm : Int32) (h0 : Heap) (n0 : Nat) (Z0 : n0 ≤ h0.size) (G0 : Arv Z h0 xa ka .double (1 : Int32) [(.double (0 : UInt64))] (.double (0 : UInt64))) (G1 : cmpValue (FP.dcmp (0 : UInt64) mn) .g = cm) (G2 : ¬ (cm < (0 : Int32))) :
    MetFree l (⟨"com/example/ordr/ordr/model/Layout", "firstBelow", "([DD)I"⟩ : MethodName) (head1 (Jvm.Cond.code (⟨"com/example/ordr/ordr/model/Layout", "firstBelow", "([DD)I"⟩ : MethodName) prog_86_method_18_code 4 (some .int) :: ws) (Rm 2 0 0 26)) (fun a_ U_ => a_ = #[(.ref xa), (.double mn)] ∧ Z.Warmed39 U_.vm ∧ U_.heap = h0) (fun _ _ _ _ _ => True) (fun _ U_ o_ V_ => ∃ v_ L_, o_ = .returned v_ ∧ Q_fb1 Z xa mn ka cm h0 n0 v_ V_.heap L_ ∧ FrameEnd U_ o_ V_ L_ (Rm 2 0 0 26).cells (Rm 2 0 0 26).slots) := by
  refine MetFree.of_bodySF (plainFor_of_name pn_26) hisR ?_
  intro p e s m args below meth c s₁ Bd hml0 hP hK
  obtain ⟨rfl, hZ, hh⟩ := hP
  have hx := Bd.exec
  have hby := Bd.bytes
  have hml : c.maxLocals = 4 := hml0
  have hown : s.vm.findClass "com/example/ordr/ordr/model/Layout" = some m.cls := findClass_of_methodNamed Bd.named
  have hnm := (name_of_methodNamed Bd.named Bd.method).1
  have hlk : meth.locks = false := Bd.notSynchronized
  have X0 : Stand p l e (Rm 2 0 0 26) s m #[(.ref xa), (.double mn)] below meth c s₁ [] 0 0 := Stand.of_body Bd
  have e0 : s₁.heap = h0 := by rw [← hh, Bd.state]; rfl
  have N0 := Fr.nil n0
  refine Comes.out (Q := Q_fb1 Z xa mn ka cm h0 n0) (kc := (Rm 2 0 0 26).cells) (ks := (Rm 2 0 0 26).slots) ?_
  refine Comes.cast (ef_fb1 m xa mn) ?_
  have lt_xa : xa < h0.size := G0.lt
  show Comes p e below _ (s₁.setTop (mkF m 0 #[.val (.ref xa), .val (.double mn), .second, .unset] []))
  refine Comes.st (fun t k => XS.iconst X0.here hx rfl (hb hby d26_0) (XS.istoreN X0.here hx rfl (hb hby d26_1) rfl (l' := #[.val (.ref xa), .val (.double mn), .second, .val (.int (0 : Int32))]) rfl (XS.iloadN X0.here hx rfl (hb hby d26_2) rfl (XS.aloadN X0.here hx rfl (hb hby d26_3) rfl rfl k)))) ?_
  show Comes p e below _ (s₁.setTop (mkF m 4 #[.val (.ref xa), .val (.double mn), .second, .val (.int (0 : Int32))] [(.ref xa), (.int (0 : Int32))]))
  obtain ⟨cl1, Ar1, -, S1, Ng1, -, -⟩ := id G0
  refine Comes.st (fun t k => X0.arraylength hx (by rw [e0]; exact Ar1.1) (State.isArrayOf_alike hZ.alike Ar1.2.1) (g := (mkF m 4 #[.val (.ref xa), .val (.double mn), .second, .val (.int (0 : Int32))] [(.ref xa), (.int (0 : Int32))])) rfl rfl (hb hby d26_4) _ k) ?_
  rw [len_of S1 Ng1]
  show Comes p e below _ (s₁.setTop (mkF m 5 #[.val (.ref xa), .val (.double mn), .second, .val (.int (0 : Int32))] [(.int (1 : Int32)), (.int (0 : Int32))]))
  have hc5_2 : (0 : Int32) < (1 : Int32) := by decide
  refine Comes.st (fun t k => XS.icmpNo X0.here hx rfl (hb hby d26_5) rfl (tlt hc5_2).2.1 (XS.aloadN X0.here hx rfl (hb hby d26_8) rfl rfl (XS.iloadN X0.here hx rfl (hb hby d26_9) rfl k))) ?_
  show Comes p e below _ (s₁.setTop (mkF m 10 #[.val (.ref xa), .val (.double mn), .second, .val (.int (0 : Int32))] [(.int (0 : Int32)), (.ref xa)]))
  obtain ⟨cl3, Ar3, q3, S3, Ng3, H3, Gf3⟩ := id G0
  have hin3 : ¬ ((0 : Int32) < 0 ∨ cl3.slots.size ≤ ((0 : Int32)).toNatClampNeg) := inb_of S3 ⟨by decide, by decide⟩
  refine Comes.st (fun t k => X0.daload hx (j := (0 : Int32)) (v := (.double (0 : UInt64))) (by rw [e0]; exact Ar3.1) (State.isArrayOf_alike hZ.alike Ar3.2.1) Ar3.2.2 hin3 (Has.at H3 hin3 rfl) (g := (mkF m 10 #[.val (.ref xa), .val (.double mn), .second, .val (.int (0 : Int32))] [(.int (0 : Int32)), (.ref xa)])) rfl rfl (hb hby d26_10) _ k) ?_
  show Comes p e below _ (s₁.setTop (mkF m 11 #[.val (.ref xa), .val (.double mn), .second, .val (.int (0 : Int32))] [(.double (0 : UInt64))]))
  obtain ⟨_, _, ⟨T4, L4, k4, n4⟩, -, X4, ⟨Lc4, hQ4, l4, y4, z4⟩, st4⟩ := Jvm.LawKit.callS X0 hx (y := (⟨"java/lang/Double", "isFinite", "(D)Z"⟩ : MethodName)) hown (mvT hZ (W hw 178)) (mvT hZ (W hw 179)) (mvT hZ (W hw 180)) (mvT hZ (W hw 181)) (by decide) (backOf (W := 0) (rm28 l Z a0 hw []  h0 n0 (by omega)  ) hZ (W hw 181) (W hw 180) (by decide) (by decide)) (g := (mkF m 11 #[.val (.ref xa), .val (.double mn), .second, .val (.int (0 : Int32))] [(.double (0 : UInt64))])) rfl (by rw [hml]; rfl) (argsL := [(.double (0 : UInt64))]) (rest := []) (lenOf pd_15 rfl) rfl (by show 2 * 0 + _ ≤ _; exact Nat.le_of_eq rfl) (hb hby d26_11) (fun _ _ => ⟨rfl, e0, (by decide : 0 + 0 ≤ _), (by decide : 0 + 0 ≤ _)⟩)
  dsimp only [Pt.U, Pt.locs, Pt.cells, Pt.slots] at X4 l4 y4 z4 st4 hQ4
  subst l4 y4 z4
  obtain ⟨rfl, Nq4, hs4⟩ := hQ4
  have N4 := Fr.app N0 Nq4
  refine Comes.st st4 ?_
  show Comes p e below _ (T4.setTop (mkF m 14 #[.val (.ref xa), .val (.double mn), .second, .val (.int (0 : Int32))] [(.int (1 : Int32))]))
  have hc14_5 : ¬ ((1 : Int32) = (0 : Int32)) := by decide
  refine Comes.st (fun t k => XS.ifNo X4.here hx rfl (hb hby d26_14) rfl ((if0 _ _).trans (feq hc14_5).1) (XS.aloadN X4.here hx rfl (hb hby d26_17) rfl rfl (XS.iloadN X4.here hx rfl (hb hby d26_18) rfl k))) ?_
  show Comes p e below _ (T4.setTop (mkF m 19 #[.val (.ref xa), .val (.double mn), .second, .val (.int (0 : Int32))] [(.int (0 : Int32)), (.ref xa)]))
  obtain ⟨cl6, Ar6, q6, S6, Ng6, H6, Gf6⟩ := id G0
  have hin6 : ¬ ((0 : Int32) < 0 ∨ cl6.slots.size ≤ ((0 : Int32)).toNatClampNeg) := inb_of S6 ⟨by decide, by decide⟩
  refine Comes.st (fun t k => X4.daload hx (j := (0 : Int32)) (v := (.double (0 : UInt64))) (by rw [hs4]; exact Ar6.1) (State.isArrayOf_alike hZ.alike Ar6.2.1) Ar6.2.2 hin6 (Has.at H6 hin6 rfl) (g := (mkF m 19 #[.val (.ref xa), .val (.double mn), .second, .val (.int (0 : Int32))] [(.int (0 : Int32)), (.ref xa)])) rfl rfl (hb hby d26_19) _ (XS.dloadN X4.here hx rfl (hb hby d26_20) rfl k)) ?_
  show Comes p e below _ (T4.setTop (mkF m 21 #[.val (.ref xa), .val (.double mn), .second, .val (.int (0 : Int32))] [(.double mn), (.double (0 : UInt64))]))
  refine Comes.st (fun t k => XS.dcmpS X4.here hx rfl (hb hby d26_21) (v := cm) rfl G1 k) ?_
  show Comes p e below _ (T4.setTop (mkF m 22 #[.val (.ref xa), .val (.double mn), .second, .val (.int (0 : Int32))] [(.int cm)]))
  have hc22_7 : ¬ (cm < (0 : Int32)) := by assumption
  refine Comes.st (fun t k => XS.ifYes X4.here hx rfl (pc0 := 22) (pc' := 27) rfl (hb hby d26_22) rfl ((if0 _ _).trans (flt hc22_7).2.1) (by decide) (by decide) (XS.iinc X4.here hx rfl (hb hby d26_27) rfl (l' := #[.val (.ref xa), .val (.double mn), .second, .val (.int (1 : Int32))]) rfl (XS.goto X4.here hx rfl (pc0 := 30) (pc' := 2) rfl (hb hby d26_30) (by decide) (by decide) (XS.iloadN X4.here hx rfl (hb hby d26_2) rfl (XS.aloadN X4.here hx rfl (hb hby d26_3) rfl rfl k))))) ?_
  show Comes p e below _ (T4.setTop (mkF m 4 #[.val (.ref xa), .val (.double mn), .second, .val (.int (1 : Int32))] [(.ref xa), (.int (1 : Int32))]))
  obtain ⟨cl8, Ar8, -, S8, Ng8, -, -⟩ := id G0
  refine Comes.st (fun t k => X4.arraylength hx (by rw [hs4]; exact Ar8.1) (State.isArrayOf_alike hZ.alike Ar8.2.1) (g := (mkF m 4 #[.val (.ref xa), .val (.double mn), .second, .val (.int (1 : Int32))] [(.ref xa), (.int (1 : Int32))])) rfl rfl (hb hby d26_4) _ k) ?_
  rw [len_of S8 Ng8]
  show Comes p e below _ (T4.setTop (mkF m 5 #[.val (.ref xa), .val (.double mn), .second, .val (.int (1 : Int32))] [(.int (1 : Int32)), (.int (1 : Int32))]))
  have hc5_9 : ¬ ((1 : Int32) < (1 : Int32)) := by decide
  refine Comes.st (fun t k => XS.icmpYes X4.here hx rfl (pc0 := 5) (pc' := 33) rfl (hb hby d26_5) rfl (flt hc5_9).2.1 (by decide) (by decide) (XS.iconst X4.here hx rfl (hb hby d26_33) k)) ?_
  show Comes p e below _ (T4.setTop (mkF m 34 #[.val (.ref xa), .val (.double mn), .second, .val (.int (1 : Int32))] [(.int (-1 : Int32))]))
  exact Comes.retV X4 hx Bd.returns rfl (Or.inl ⟨rfl, Or.inl rfl, _, rfl⟩) hlk (hb hby d26_34) hs4 ⟨rfl, N4, rfl⟩ (by decide) (by decide)
def Q_fb2 (Z : State) (xa : Nat) (mn : UInt64) (ka : ClassId) (cm : Int32) (h0 : Heap) (n0 : Nat) (v_ : Option Value) (h : Heap) (L_ : List Loc) : Prop := (v_ = some (.int (-1 : Int32))) ∧ (Fr n0 L_) ∧ (h = h0)
theorem fb2 (l : Launch) (Z : State) (a0 : Array Value) (hw : ∀ d ∈ tables_1, d.before a0 Z = true) (ws : List Jvm.Cond) (xa : Nat) (mn : UInt64) (ka : ClassId) (cm : Int32) (h0 : Heap) (n0 : Nat) (Z0 : n0 ≤ h0.size) (G0 : Arv Z h0 xa ka .double (2 : Int32) [(.double (0 : UInt64)), (.double (0 : UInt64))] (.double (0 : UInt64))) (G1 : cmpValue (FP.dcmp (0 : UInt64) mn) .g = cm) (G2 : ¬ (cm < (0 : Int32))) :
    MetFree l (⟨"com/example/ordr/ordr/model/Layout", "firstBelow", "([DD)I"⟩ : MethodName) (head1 (Jvm.Cond.code (⟨"com/example/ordr/ordr/model/Layout", "firstBelow", "([DD)I"⟩ : MethodName) prog_86_method_18_code 4 (some .int) :: ws) (Rm 2 0 0 26)) (fun a_ U_ => a_ = #[(.ref xa), (.double mn)] ∧ Z.Warmed39 U_.vm ∧ U_.heap = h0) (fun _ _ _ _ _ => True) (fun _ U_ o_ V_ => ∃ v_ L_, o_ = .returned v_ ∧ Q_fb2 Z xa mn ka cm h0 n0 v_ V_.heap L_ ∧ FrameEnd U_ o_ V_ L_ (Rm 2 0 0 26).cells (Rm 2 0 0 26).slots) := by
  refine MetFree.of_bodySF (plainFor_of_name pn_26) hisR ?_
  intro p e s m args below meth c s₁ Bd hml0 hP hK
  obtain ⟨rfl, hZ, hh⟩ := hP
  have hx := Bd.exec
  have hby := Bd.bytes
  have hml : c.maxLocals = 4 := hml0
  have hown : s.vm.findClass "com/example/ordr/ordr/model/Layout" = some m.cls := findClass_of_methodNamed Bd.named
  have hnm := (name_of_methodNamed Bd.named Bd.method).1
  have hlk : meth.locks = false := Bd.notSynchronized
  have X0 : Stand p l e (Rm 2 0 0 26) s m #[(.ref xa), (.double mn)] below meth c s₁ [] 0 0 := Stand.of_body Bd
  have e0 : s₁.heap = h0 := by rw [← hh, Bd.state]; rfl
  have N0 := Fr.nil n0
  refine Comes.out (Q := Q_fb2 Z xa mn ka cm h0 n0) (kc := (Rm 2 0 0 26).cells) (ks := (Rm 2 0 0 26).slots) ?_
  refine Comes.cast (ef_fb2 m xa mn) ?_
  have lt_xa : xa < h0.size := G0.lt
  show Comes p e below _ (s₁.setTop (mkF m 0 #[.val (.ref xa), .val (.double mn), .second, .unset] []))
  refine Comes.st (fun t k => XS.iconst X0.here hx rfl (hb hby d26_0) (XS.istoreN X0.here hx rfl (hb hby d26_1) rfl (l' := #[.val (.ref xa), .val (.double mn), .second, .val (.int (0 : Int32))]) rfl (XS.iloadN X0.here hx rfl (hb hby d26_2) rfl (XS.aloadN X0.here hx rfl (hb hby d26_3) rfl rfl k)))) ?_
  show Comes p e below _ (s₁.setTop (mkF m 4 #[.val (.ref xa), .val (.double mn), .second, .val (.int (0 : Int32))] [(.ref xa), (.int (0 : Int32))]))
  obtain ⟨cl1, Ar1, -, S1, Ng1, -, -⟩ := id G0
  refine Comes.st (fun t k => X0.arraylength hx (by rw [e0]; exact Ar1.1) (State.isArrayOf_alike hZ.alike Ar1.2.1) (g := (mkF m 4 #[.val (.ref xa), .val (.double mn), .second, .val (.int (0 : Int32))] [(.ref xa), (.int (0 : Int32))])) rfl rfl (hb hby d26_4) _ k) ?_
  rw [len_of S1 Ng1]
  show Comes p e below _ (s₁.setTop (mkF m 5 #[.val (.ref xa), .val (.double mn), .second, .val (.int (0 : Int32))] [(.int (2 : Int32)), (.int (0 : Int32))]))
  have hc5_2 : (0 : Int32) < (2 : Int32) := by decide
  refine Comes.st (fun t k => XS.icmpNo X0.here hx rfl (hb hby d26_5) rfl (tlt hc5_2).2.1 (XS.aloadN X0.here hx rfl (hb hby d26_8) rfl rfl (XS.iloadN X0.here hx rfl (hb hby d26_9) rfl k))) ?_
  show Comes p e below _ (s₁.setTop (mkF m 10 #[.val (.ref xa), .val (.double mn), .second, .val (.int (0 : Int32))] [(.int (0 : Int32)), (.ref xa)]))
  obtain ⟨cl3, Ar3, q3, S3, Ng3, H3, Gf3⟩ := id G0
  have hin3 : ¬ ((0 : Int32) < 0 ∨ cl3.slots.size ≤ ((0 : Int32)).toNatClampNeg) := inb_of S3 ⟨by decide, by decide⟩
  refine Comes.st (fun t k => X0.daload hx (j := (0 : Int32)) (v := (.double (0 : UInt64))) (by rw [e0]; exact Ar3.1) (State.isArrayOf_alike hZ.alike Ar3.2.1) Ar3.2.2 hin3 (Has.at H3 hin3 rfl) (g := (mkF m 10 #[.val (.ref xa), .val (.double mn), .second, .val (.int (0 : Int32))] [(.int (0 : Int32)), (.ref xa)])) rfl rfl (hb hby d26_10) _ k) ?_
  show Comes p e below _ (s₁.setTop (mkF m 11 #[.val (.ref xa), .val (.double mn), .second, .val (.int (0 : Int32))] [(.double (0 : UInt64))]))
  obtain ⟨_, _, ⟨T4, L4, k4, n4⟩, -, X4, ⟨Lc4, hQ4, l4, y4, z4⟩, st4⟩ := Jvm.LawKit.callS X0 hx (y := (⟨"java/lang/Double", "isFinite", "(D)Z"⟩ : MethodName)) hown (mvT hZ (W hw 178)) (mvT hZ (W hw 179)) (mvT hZ (W hw 180)) (mvT hZ (W hw 181)) (by decide) (backOf (W := 0) (rm28 l Z a0 hw []  h0 n0 (by omega)  ) hZ (W hw 181) (W hw 180) (by decide) (by decide)) (g := (mkF m 11 #[.val (.ref xa), .val (.double mn), .second, .val (.int (0 : Int32))] [(.double (0 : UInt64))])) rfl (by rw [hml]; rfl) (argsL := [(.double (0 : UInt64))]) (rest := []) (lenOf pd_15 rfl) rfl (by show 2 * 0 + _ ≤ _; exact Nat.le_of_eq rfl) (hb hby d26_11) (fun _ _ => ⟨rfl, e0, (by decide : 0 + 0 ≤ _), (by decide : 0 + 0 ≤ _)⟩)
  dsimp only [Pt.U, Pt.locs, Pt.cells, Pt.slots] at X4 l4 y4 z4 st4 hQ4
  subst l4 y4 z4
  obtain ⟨rfl, Nq4, hs4⟩ := hQ4
  have N4 := Fr.app N0 Nq4
  refine Comes.st st4 ?_
  show Comes p e below _ (T4.setTop (mkF m 14 #[.val (.ref xa), .val (.double mn), .second, .val (.int (0 : Int32))] [(.int (1 : Int32))]))
  have hc14_5 : ¬ ((1 : Int32) = (0 : Int32)) := by decide
  refine Comes.st (fun t k => XS.ifNo X4.here hx rfl (hb hby d26_14) rfl ((if0 _ _).trans (feq hc14_5).1) (XS.aloadN X4.here hx rfl (hb hby d26_17) rfl rfl (XS.iloadN X4.here hx rfl (hb hby d26_18) rfl k))) ?_
  show Comes p e below _ (T4.setTop (mkF m 19 #[.val (.ref xa), .val (.double mn), .second, .val (.int (0 : Int32))] [(.int (0 : Int32)), (.ref xa)]))
  obtain ⟨cl6, Ar6, q6, S6, Ng6, H6, Gf6⟩ := id G0
  have hin6 : ¬ ((0 : Int32) < 0 ∨ cl6.slots.size ≤ ((0 : Int32)).toNatClampNeg) := inb_of S6 ⟨by decide, by decide⟩
  refine Comes.st (fun t k => X4.daload hx (j := (0 : Int32)) (v := (.double (0 : UInt64))) (by rw [hs4]; exact Ar6.1) (State.isArrayOf_alike hZ.alike Ar6.2.1) Ar6.2.2 hin6 (Has.at H6 hin6 rfl) (g := (mkF m 19 #[.val (.ref xa), .val (.double mn), .second, .val (.int (0 : Int32))] [(.int (0 : Int32)), (.ref xa)])) rfl rfl (hb hby d26_19) _ (XS.dloadN X4.here hx rfl (hb hby d26_20) rfl k)) ?_
  show Comes p e below _ (T4.setTop (mkF m 21 #[.val (.ref xa), .val (.double mn), .second, .val (.int (0 : Int32))] [(.double mn), (.double (0 : UInt64))]))
  refine Comes.st (fun t k => XS.dcmpS X4.here hx rfl (hb hby d26_21) (v := cm) rfl G1 k) ?_
  show Comes p e below _ (T4.setTop (mkF m 22 #[.val (.ref xa), .val (.double mn), .second, .val (.int (0 : Int32))] [(.int cm)]))
  have hc22_7 : ¬ (cm < (0 : Int32)) := by assumption
  refine Comes.st (fun t k => XS.ifYes X4.here hx rfl (pc0 := 22) (pc' := 27) rfl (hb hby d26_22) rfl ((if0 _ _).trans (flt hc22_7).2.1) (by decide) (by decide) (XS.iinc X4.here hx rfl (hb hby d26_27) rfl (l' := #[.val (.ref xa), .val (.double mn), .second, .val (.int (1 : Int32))]) rfl (XS.goto X4.here hx rfl (pc0 := 30) (pc' := 2) rfl (hb hby d26_30) (by decide) (by decide) (XS.iloadN X4.here hx rfl (hb hby d26_2) rfl (XS.aloadN X4.here hx rfl (hb hby d26_3) rfl rfl k))))) ?_
  show Comes p e below _ (T4.setTop (mkF m 4 #[.val (.ref xa), .val (.double mn), .second, .val (.int (1 : Int32))] [(.ref xa), (.int (1 : Int32))]))
  obtain ⟨cl8, Ar8, -, S8, Ng8, -, -⟩ := id G0
  refine Comes.st (fun t k => X4.arraylength hx (by rw [hs4]; exact Ar8.1) (State.isArrayOf_alike hZ.alike Ar8.2.1) (g := (mkF m 4 #[.val (.ref xa), .val (.double mn), .second, .val (.int (1 : Int32))] [(.ref xa), (.int (1 : Int32))])) rfl rfl (hb hby d26_4) _ k) ?_
  rw [len_of S8 Ng8]
  show Comes p e below _ (T4.setTop (mkF m 5 #[.val (.ref xa), .val (.double mn), .second, .val (.int (1 : Int32))] [(.int (2 : Int32)), (.int (1 : Int32))]))
  have hc5_9 : (1 : Int32) < (2 : Int32) := by decide
  refine Comes.st (fun t k => XS.icmpNo X4.here hx rfl (hb hby d26_5) rfl (tlt hc5_9).2.1 (XS.aloadN X4.here hx rfl (hb hby d26_8) rfl rfl (XS.iloadN X4.here hx rfl (hb hby d26_9) rfl k))) ?_
  show Comes p e below _ (T4.setTop (mkF m 10 #[.val (.ref xa), .val (.double mn), .second, .val (.int (1 : Int32))] [(.int (1 : Int32)), (.ref xa)]))
  obtain ⟨cl10, Ar10, q10, S10, Ng10, H10, Gf10⟩ := id G0
  have hin10 : ¬ ((1 : Int32) < 0 ∨ cl10.slots.size ≤ ((1 : Int32)).toNatClampNeg) := inb_of S10 ⟨by decide, by decide⟩
  refine Comes.st (fun t k => X4.daload hx (j := (1 : Int32)) (v := (.double (0 : UInt64))) (by rw [hs4]; exact Ar10.1) (State.isArrayOf_alike hZ.alike Ar10.2.1) Ar10.2.2 hin10 (Has.at H10 hin10 rfl) (g := (mkF m 10 #[.val (.ref xa), .val (.double mn), .second, .val (.int (1 : Int32))] [(.int (1 : Int32)), (.ref xa)])) rfl rfl (hb hby d26_10) _ k) ?_
  show Comes p e below _ (T4.setTop (mkF m 11 #[.val (.ref xa), .val (.double mn), .second, .val (.int (1 : Int32))] [(.double (0 : UInt64))]))
  obtain ⟨_, _, ⟨T11, L11, k11, n11⟩, -, X11, ⟨Lc11, hQ11, l11, y11, z11⟩, st11⟩ := Jvm.LawKit.callS X4 hx (y := (⟨"java/lang/Double", "isFinite", "(D)Z"⟩ : MethodName)) hown (mvT hZ (W hw 178)) (mvT hZ (W hw 179)) (mvT hZ (W hw 180)) (mvT hZ (W hw 181)) (by decide) (backOf (W := 0) (rm28 l Z a0 hw []  h0 n0 (by omega)  ) hZ (W hw 181) (W hw 180) (by decide) (by decide)) (g := (mkF m 11 #[.val (.ref xa), .val (.double mn), .second, .val (.int (1 : Int32))] [(.double (0 : UInt64))])) rfl (by rw [hml]; rfl) (argsL := [(.double (0 : UInt64))]) (rest := []) (lenOf pd_15 rfl) rfl (by show 2 * 0 + _ ≤ _; exact Nat.le_of_eq rfl) (hb hby d26_11) (fun _ _ => ⟨rfl, hs4, (by decide : 0 + 0 ≤ _), (by decide : 0 + 0 ≤ _)⟩)
  dsimp only [Pt.U, Pt.locs, Pt.cells, Pt.slots] at X11 l11 y11 z11 st11 hQ11
  subst l11 y11 z11
  obtain ⟨rfl, Nq11, hs11⟩ := hQ11
  have N11 := Fr.app N4 Nq11
  refine Comes.st st11 ?_
  show Comes p e below _ (T11.setTop (mkF m 14 #[.val (.ref xa), .val (.double mn), .second, .val (.int (1 : Int32))] [(.int (1 : Int32))]))
  have hc14_12 : ¬ ((1 : Int32) = (0 : Int32)) := by decide
  refine Comes.st (fun t k => XS.ifNo X11.here hx rfl (hb hby d26_14) rfl ((if0 _ _).trans (feq hc14_12).1) (XS.aloadN X11.here hx rfl (hb hby d26_17) rfl rfl (XS.iloadN X11.here hx rfl (hb hby d26_18) rfl k))) ?_
  show Comes p e below _ (T11.setTop (mkF m 19 #[.val (.ref xa), .val (.double mn), .second, .val (.int (1 : Int32))] [(.int (1 : Int32)), (.ref xa)]))
  obtain ⟨cl13, Ar13, q13, S13, Ng13, H13, Gf13⟩ := id G0
  have hin13 : ¬ ((1 : Int32) < 0 ∨ cl13.slots.size ≤ ((1 : Int32)).toNatClampNeg) := inb_of S13 ⟨by decide, by decide⟩
  refine Comes.st (fun t k => X11.daload hx (j := (1 : Int32)) (v := (.double (0 : UInt64))) (by rw [hs11]; exact Ar13.1) (State.isArrayOf_alike hZ.alike Ar13.2.1) Ar13.2.2 hin13 (Has.at H13 hin13 rfl) (g := (mkF m 19 #[.val (.ref xa), .val (.double mn), .second, .val (.int (1 : Int32))] [(.int (1 : Int32)), (.ref xa)])) rfl rfl (hb hby d26_19) _ (XS.dloadN X11.here hx rfl (hb hby d26_20) rfl k)) ?_
  show Comes p e below _ (T11.setTop (mkF m 21 #[.val (.ref xa), .val (.double mn), .second, .val (.int (1 : Int32))] [(.double mn), (.double (0 : UInt64))]))
  refine Comes.st (fun t k => XS.dcmpS X11.here hx rfl (hb hby d26_21) (v := cm) rfl G1 k) ?_
  show Comes p e below _ (T11.setTop (mkF m 22 #[.val (.ref xa), .val (.double mn), .second, .val (.int (1 : Int32))] [(.int cm)]))
  have hc22_14 : ¬ (cm < (0 : Int32)) := by assumption
  refine Comes.st (fun t k => XS.ifYes X11.here hx rfl (pc0 := 22) (pc' := 27) rfl (hb hby d26_22) rfl ((if0 _ _).trans (flt hc22_14).2.1) (by decide) (by decide) (XS.iinc X11.here hx rfl (hb hby d26_27) rfl (l' := #[.val (.ref xa), .val (.double mn), .second, .val (.int (2 : Int32))]) rfl (XS.goto X11.here hx rfl (pc0 := 30) (pc' := 2) rfl (hb hby d26_30) (by decide) (by decide) (XS.iloadN X11.here hx rfl (hb hby d26_2) rfl (XS.aloadN X11.here hx rfl (hb hby d26_3) rfl rfl k))))) ?_
  show Comes p e below _ (T11.setTop (mkF m 4 #[.val (.ref xa), .val (.double mn), .second, .val (.int (2 : Int32))] [(.ref xa), (.int (2 : Int32))]))
  obtain ⟨cl15, Ar15, -, S15, Ng15, -, -⟩ := id G0
  refine Comes.st (fun t k => X11.arraylength hx (by rw [hs11]; exact Ar15.1) (State.isArrayOf_alike hZ.alike Ar15.2.1) (g := (mkF m 4 #[.val (.ref xa), .val (.double mn), .second, .val (.int (2 : Int32))] [(.ref xa), (.int (2 : Int32))])) rfl rfl (hb hby d26_4) _ k) ?_
  rw [len_of S15 Ng15]
  show Comes p e below _ (T11.setTop (mkF m 5 #[.val (.ref xa), .val (.double mn), .second, .val (.int (2 : Int32))] [(.int (2 : Int32)), (.int (2 : Int32))]))
  have hc5_16 : ¬ ((2 : Int32) < (2 : Int32)) := by decide
  refine Comes.st (fun t k => XS.icmpYes X11.here hx rfl (pc0 := 5) (pc' := 33) rfl (hb hby d26_5) rfl (flt hc5_16).2.1 (by decide) (by decide) (XS.iconst X11.here hx rfl (hb hby d26_33) k)) ?_
  show Comes p e below _ (T11.setTop (mkF m 34 #[.val (.ref xa), .val (.double mn), .second, .val (.int (2 : Int32))] [(.int (-1 : Int32))]))
  exact Comes.retV X11 hx Bd.returns rfl (Or.inl ⟨rfl, Or.inl rfl, _, rfl⟩) hlk (hb hby d26_34) hs11 ⟨rfl, N11, rfl⟩ (by decide) (by decide)
def Q_fb3 (Z : State) (xa : Nat) (mn : UInt64) (ka : ClassId) (cm : Int32) (h0 : Heap) (n0 : Nat) (v_ : Option Value) (h : Heap) (L_ : List Loc) : Prop := (v_ = some (.int (-1 : Int32))) ∧ (Fr n0 L_) ∧ (h = h0)
theorem fb3 (l : Launch) (Z : State) (a0 : Array Value) (hw : ∀ d ∈ tables_1, d.before a0 Z = true) (ws : List Jvm.Cond) (xa : Nat) (mn : UInt64) (ka : ClassId) (cm : Int32) (h0 : Heap) (n0 : Nat) (Z0 : n0 ≤ h0.size) (G0 : Arv Z h0 xa ka .double (3 : Int32) [(.double (0 : UInt64)), (.double (0 : UInt64)), (.double (0 : UInt64))] (.double (0 : UInt64))) (G1 : cmpValue (FP.dcmp (0 : UInt64) mn) .g = cm) (G2 : ¬ (cm < (0 : Int32))) :
    MetFree l (⟨"com/example/ordr/ordr/model/Layout", "firstBelow", "([DD)I"⟩ : MethodName) (head1 (Jvm.Cond.code (⟨"com/example/ordr/ordr/model/Layout", "firstBelow", "([DD)I"⟩ : MethodName) prog_86_method_18_code 4 (some .int) :: ws) (Rm 2 0 0 26)) (fun a_ U_ => a_ = #[(.ref xa), (.double mn)] ∧ Z.Warmed39 U_.vm ∧ U_.heap = h0) (fun _ _ _ _ _ => True) (fun _ U_ o_ V_ => ∃ v_ L_, o_ = .returned v_ ∧ Q_fb3 Z xa mn ka cm h0 n0 v_ V_.heap L_ ∧ FrameEnd U_ o_ V_ L_ (Rm 2 0 0 26).cells (Rm 2 0 0 26).slots) := by
  refine MetFree.of_bodySF (plainFor_of_name pn_26) hisR ?_
  intro p e s m args below meth c s₁ Bd hml0 hP hK
  obtain ⟨rfl, hZ, hh⟩ := hP
  have hx := Bd.exec
  have hby := Bd.bytes
  have hml : c.maxLocals = 4 := hml0
  have hown : s.vm.findClass "com/example/ordr/ordr/model/Layout" = some m.cls := findClass_of_methodNamed Bd.named
  have hnm := (name_of_methodNamed Bd.named Bd.method).1
  have hlk : meth.locks = false := Bd.notSynchronized
  have X0 : Stand p l e (Rm 2 0 0 26) s m #[(.ref xa), (.double mn)] below meth c s₁ [] 0 0 := Stand.of_body Bd
  have e0 : s₁.heap = h0 := by rw [← hh, Bd.state]; rfl
  have N0 := Fr.nil n0
  refine Comes.out (Q := Q_fb3 Z xa mn ka cm h0 n0) (kc := (Rm 2 0 0 26).cells) (ks := (Rm 2 0 0 26).slots) ?_
  refine Comes.cast (ef_fb3 m xa mn) ?_
  have lt_xa : xa < h0.size := G0.lt
  show Comes p e below _ (s₁.setTop (mkF m 0 #[.val (.ref xa), .val (.double mn), .second, .unset] []))
  refine Comes.st (fun t k => XS.iconst X0.here hx rfl (hb hby d26_0) (XS.istoreN X0.here hx rfl (hb hby d26_1) rfl (l' := #[.val (.ref xa), .val (.double mn), .second, .val (.int (0 : Int32))]) rfl (XS.iloadN X0.here hx rfl (hb hby d26_2) rfl (XS.aloadN X0.here hx rfl (hb hby d26_3) rfl rfl k)))) ?_
  show Comes p e below _ (s₁.setTop (mkF m 4 #[.val (.ref xa), .val (.double mn), .second, .val (.int (0 : Int32))] [(.ref xa), (.int (0 : Int32))]))
  obtain ⟨cl1, Ar1, -, S1, Ng1, -, -⟩ := id G0
  refine Comes.st (fun t k => X0.arraylength hx (by rw [e0]; exact Ar1.1) (State.isArrayOf_alike hZ.alike Ar1.2.1) (g := (mkF m 4 #[.val (.ref xa), .val (.double mn), .second, .val (.int (0 : Int32))] [(.ref xa), (.int (0 : Int32))])) rfl rfl (hb hby d26_4) _ k) ?_
  rw [len_of S1 Ng1]
  show Comes p e below _ (s₁.setTop (mkF m 5 #[.val (.ref xa), .val (.double mn), .second, .val (.int (0 : Int32))] [(.int (3 : Int32)), (.int (0 : Int32))]))
  have hc5_2 : (0 : Int32) < (3 : Int32) := by decide
  refine Comes.st (fun t k => XS.icmpNo X0.here hx rfl (hb hby d26_5) rfl (tlt hc5_2).2.1 (XS.aloadN X0.here hx rfl (hb hby d26_8) rfl rfl (XS.iloadN X0.here hx rfl (hb hby d26_9) rfl k))) ?_
  show Comes p e below _ (s₁.setTop (mkF m 10 #[.val (.ref xa), .val (.double mn), .second, .val (.int (0 : Int32))] [(.int (0 : Int32)), (.ref xa)]))
  obtain ⟨cl3, Ar3, q3, S3, Ng3, H3, Gf3⟩ := id G0
  have hin3 : ¬ ((0 : Int32) < 0 ∨ cl3.slots.size ≤ ((0 : Int32)).toNatClampNeg) := inb_of S3 ⟨by decide, by decide⟩
  refine Comes.st (fun t k => X0.daload hx (j := (0 : Int32)) (v := (.double (0 : UInt64))) (by rw [e0]; exact Ar3.1) (State.isArrayOf_alike hZ.alike Ar3.2.1) Ar3.2.2 hin3 (Has.at H3 hin3 rfl) (g := (mkF m 10 #[.val (.ref xa), .val (.double mn), .second, .val (.int (0 : Int32))] [(.int (0 : Int32)), (.ref xa)])) rfl rfl (hb hby d26_10) _ k) ?_
  show Comes p e below _ (s₁.setTop (mkF m 11 #[.val (.ref xa), .val (.double mn), .second, .val (.int (0 : Int32))] [(.double (0 : UInt64))]))
  obtain ⟨_, _, ⟨T4, L4, k4, n4⟩, -, X4, ⟨Lc4, hQ4, l4, y4, z4⟩, st4⟩ := Jvm.LawKit.callS X0 hx (y := (⟨"java/lang/Double", "isFinite", "(D)Z"⟩ : MethodName)) hown (mvT hZ (W hw 178)) (mvT hZ (W hw 179)) (mvT hZ (W hw 180)) (mvT hZ (W hw 181)) (by decide) (backOf (W := 0) (rm28 l Z a0 hw []  h0 n0 (by omega)  ) hZ (W hw 181) (W hw 180) (by decide) (by decide)) (g := (mkF m 11 #[.val (.ref xa), .val (.double mn), .second, .val (.int (0 : Int32))] [(.double (0 : UInt64))])) rfl (by rw [hml]; rfl) (argsL := [(.double (0 : UInt64))]) (rest := []) (lenOf pd_15 rfl) rfl (by show 2 * 0 + _ ≤ _; exact Nat.le_of_eq rfl) (hb hby d26_11) (fun _ _ => ⟨rfl, e0, (by decide : 0 + 0 ≤ _), (by decide : 0 + 0 ≤ _)⟩)
  dsimp only [Pt.U, Pt.locs, Pt.cells, Pt.slots] at X4 l4 y4 z4 st4 hQ4
  subst l4 y4 z4
  obtain ⟨rfl, Nq4, hs4⟩ := hQ4
  have N4 := Fr.app N0 Nq4
  refine Comes.st st4 ?_
  show Comes p e below _ (T4.setTop (mkF m 14 #[.val (.ref xa), .val (.double mn), .second, .val (.int (0 : Int32))] [(.int (1 : Int32))]))
  have hc14_5 : ¬ ((1 : Int32) = (0 : Int32)) := by decide
  refine Comes.st (fun t k => XS.ifNo X4.here hx rfl (hb hby d26_14) rfl ((if0 _ _).trans (feq hc14_5).1) (XS.aloadN X4.here hx rfl (hb hby d26_17) rfl rfl (XS.iloadN X4.here hx rfl (hb hby d26_18) rfl k))) ?_
  show Comes p e below _ (T4.setTop (mkF m 19 #[.val (.ref xa), .val (.double mn), .second, .val (.int (0 : Int32))] [(.int (0 : Int32)), (.ref xa)]))
  obtain ⟨cl6, Ar6, q6, S6, Ng6, H6, Gf6⟩ := id G0
  have hin6 : ¬ ((0 : Int32) < 0 ∨ cl6.slots.size ≤ ((0 : Int32)).toNatClampNeg) := inb_of S6 ⟨by decide, by decide⟩
  refine Comes.st (fun t k => X4.daload hx (j := (0 : Int32)) (v := (.double (0 : UInt64))) (by rw [hs4]; exact Ar6.1) (State.isArrayOf_alike hZ.alike Ar6.2.1) Ar6.2.2 hin6 (Has.at H6 hin6 rfl) (g := (mkF m 19 #[.val (.ref xa), .val (.double mn), .second, .val (.int (0 : Int32))] [(.int (0 : Int32)), (.ref xa)])) rfl rfl (hb hby d26_19) _ (XS.dloadN X4.here hx rfl (hb hby d26_20) rfl k)) ?_
  show Comes p e below _ (T4.setTop (mkF m 21 #[.val (.ref xa), .val (.double mn), .second, .val (.int (0 : Int32))] [(.double mn), (.double (0 : UInt64))]))
  refine Comes.st (fun t k => XS.dcmpS X4.here hx rfl (hb hby d26_21) (v := cm) rfl G1 k) ?_
  show Comes p e below _ (T4.setTop (mkF m 22 #[.val (.ref xa), .val (.double mn), .second, .val (.int (0 : Int32))] [(.int cm)]))
  have hc22_7 : ¬ (cm < (0 : Int32)) := by assumption
  refine Comes.st (fun t k => XS.ifYes X4.here hx rfl (pc0 := 22) (pc' := 27) rfl (hb hby d26_22) rfl ((if0 _ _).trans (flt hc22_7).2.1) (by decide) (by decide) (XS.iinc X4.here hx rfl (hb hby d26_27) rfl (l' := #[.val (.ref xa), .val (.double mn), .second, .val (.int (1 : Int32))]) rfl (XS.goto X4.here hx rfl (pc0 := 30) (pc' := 2) rfl (hb hby d26_30) (by decide) (by decide) (XS.iloadN X4.here hx rfl (hb hby d26_2) rfl (XS.aloadN X4.here hx rfl (hb hby d26_3) rfl rfl k))))) ?_
  show Comes p e below _ (T4.setTop (mkF m 4 #[.val (.ref xa), .val (.double mn), .second, .val (.int (1 : Int32))] [(.ref xa), (.int (1 : Int32))]))
  obtain ⟨cl8, Ar8, -, S8, Ng8, -, -⟩ := id G0
  refine Comes.st (fun t k => X4.arraylength hx (by rw [hs4]; exact Ar8.1) (State.isArrayOf_alike hZ.alike Ar8.2.1) (g := (mkF m 4 #[.val (.ref xa), .val (.double mn), .second, .val (.int (1 : Int32))] [(.ref xa), (.int (1 : Int32))])) rfl rfl (hb hby d26_4) _ k) ?_
  rw [len_of S8 Ng8]
  show Comes p e below _ (T4.setTop (mkF m 5 #[.val (.ref xa), .val (.double mn), .second, .val (.int (1 : Int32))] [(.int (3 : Int32)), (.int (1 : Int32))]))
  have hc5_9 : (1 : Int32) < (3 : Int32) := by decide
  refine Comes.st (fun t k => XS.icmpNo X4.here hx rfl (hb hby d26_5) rfl (tlt hc5_9).2.1 (XS.aloadN X4.here hx rfl (hb hby d26_8) rfl rfl (XS.iloadN X4.here hx rfl (hb hby d26_9) rfl k))) ?_
  show Comes p e below _ (T4.setTop (mkF m 10 #[.val (.ref xa), .val (.double mn), .second, .val (.int (1 : Int32))] [(.int (1 : Int32)), (.ref xa)]))
  obtain ⟨cl10, Ar10, q10, S10, Ng10, H10, Gf10⟩ := id G0
  have hin10 : ¬ ((1 : Int32) < 0 ∨ cl10.slots.size ≤ ((1 : Int32)).toNatClampNeg) := inb_of S10 ⟨by decide, by decide⟩
  refine Comes.st (fun t k => X4.daload hx (j := (1 : Int32)) (v := (.double (0 : UInt64))) (by rw [hs4]; exact Ar10.1) (State.isArrayOf_alike hZ.alike Ar10.2.1) Ar10.2.2 hin10 (Has.at H10 hin10 rfl) (g := (mkF m 10 #[.val (.ref xa), .val (.double mn), .second, .val (.int (1 : Int32))] [(.int (1 : Int32)), (.ref xa)])) rfl rfl (hb hby d26_10) _ k) ?_
  show Comes p e below _ (T4.setTop (mkF m 11 #[.val (.ref xa), .val (.double mn), .second, .val (.int (1 : Int32))] [(.double (0 : UInt64))]))
  obtain ⟨_, _, ⟨T11, L11, k11, n11⟩, -, X11, ⟨Lc11, hQ11, l11, y11, z11⟩, st11⟩ := Jvm.LawKit.callS X4 hx (y := (⟨"java/lang/Double", "isFinite", "(D)Z"⟩ : MethodName)) hown (mvT hZ (W hw 178)) (mvT hZ (W hw 179)) (mvT hZ (W hw 180)) (mvT hZ (W hw 181)) (by decide) (backOf (W := 0) (rm28 l Z a0 hw []  h0 n0 (by omega)  ) hZ (W hw 181) (W hw 180) (by decide) (by decide)) (g := (mkF m 11 #[.val (.ref xa), .val (.double mn), .second, .val (.int (1 : Int32))] [(.double (0 : UInt64))])) rfl (by rw [hml]; rfl) (argsL := [(.double (0 : UInt64))]) (rest := []) (lenOf pd_15 rfl) rfl (by show 2 * 0 + _ ≤ _; exact Nat.le_of_eq rfl) (hb hby d26_11) (fun _ _ => ⟨rfl, hs4, (by decide : 0 + 0 ≤ _), (by decide : 0 + 0 ≤ _)⟩)
  dsimp only [Pt.U, Pt.locs, Pt.cells, Pt.slots] at X11 l11 y11 z11 st11 hQ11
  subst l11 y11 z11
  obtain ⟨rfl, Nq11, hs11⟩ := hQ11
  have N11 := Fr.app N4 Nq11
  refine Comes.st st11 ?_
  show Comes p e below _ (T11.setTop (mkF m 14 #[.val (.ref xa), .val (.double mn), .second, .val (.int (1 : Int32))] [(.int (1 : Int32))]))
  have hc14_12 : ¬ ((1 : Int32) = (0 : Int32)) := by decide
  refine Comes.st (fun t k => XS.ifNo X11.here hx rfl (hb hby d26_14) rfl ((if0 _ _).trans (feq hc14_12).1) (XS.aloadN X11.here hx rfl (hb hby d26_17) rfl rfl (XS.iloadN X11.here hx rfl (hb hby d26_18) rfl k))) ?_
  show Comes p e below _ (T11.setTop (mkF m 19 #[.val (.ref xa), .val (.double mn), .second, .val (.int (1 : Int32))] [(.int (1 : Int32)), (.ref xa)]))
  obtain ⟨cl13, Ar13, q13, S13, Ng13, H13, Gf13⟩ := id G0
  have hin13 : ¬ ((1 : Int32) < 0 ∨ cl13.slots.size ≤ ((1 : Int32)).toNatClampNeg) := inb_of S13 ⟨by decide, by decide⟩
  refine Comes.st (fun t k => X11.daload hx (j := (1 : Int32)) (v := (.double (0 : UInt64))) (by rw [hs11]; exact Ar13.1) (State.isArrayOf_alike hZ.alike Ar13.2.1) Ar13.2.2 hin13 (Has.at H13 hin13 rfl) (g := (mkF m 19 #[.val (.ref xa), .val (.double mn), .second, .val (.int (1 : Int32))] [(.int (1 : Int32)), (.ref xa)])) rfl rfl (hb hby d26_19) _ (XS.dloadN X11.here hx rfl (hb hby d26_20) rfl k)) ?_
  show Comes p e below _ (T11.setTop (mkF m 21 #[.val (.ref xa), .val (.double mn), .second, .val (.int (1 : Int32))] [(.double mn), (.double (0 : UInt64))]))
  refine Comes.st (fun t k => XS.dcmpS X11.here hx rfl (hb hby d26_21) (v := cm) rfl G1 k) ?_
  show Comes p e below _ (T11.setTop (mkF m 22 #[.val (.ref xa), .val (.double mn), .second, .val (.int (1 : Int32))] [(.int cm)]))
  have hc22_14 : ¬ (cm < (0 : Int32)) := by assumption
  refine Comes.st (fun t k => XS.ifYes X11.here hx rfl (pc0 := 22) (pc' := 27) rfl (hb hby d26_22) rfl ((if0 _ _).trans (flt hc22_14).2.1) (by decide) (by decide) (XS.iinc X11.here hx rfl (hb hby d26_27) rfl (l' := #[.val (.ref xa), .val (.double mn), .second, .val (.int (2 : Int32))]) rfl (XS.goto X11.here hx rfl (pc0 := 30) (pc' := 2) rfl (hb hby d26_30) (by decide) (by decide) (XS.iloadN X11.here hx rfl (hb hby d26_2) rfl (XS.aloadN X11.here hx rfl (hb hby d26_3) rfl rfl k))))) ?_
  show Comes p e below _ (T11.setTop (mkF m 4 #[.val (.ref xa), .val (.double mn), .second, .val (.int (2 : Int32))] [(.ref xa), (.int (2 : Int32))]))
  obtain ⟨cl15, Ar15, -, S15, Ng15, -, -⟩ := id G0
  refine Comes.st (fun t k => X11.arraylength hx (by rw [hs11]; exact Ar15.1) (State.isArrayOf_alike hZ.alike Ar15.2.1) (g := (mkF m 4 #[.val (.ref xa), .val (.double mn), .second, .val (.int (2 : Int32))] [(.ref xa), (.int (2 : Int32))])) rfl rfl (hb hby d26_4) _ k) ?_
  rw [len_of S15 Ng15]
  show Comes p e below _ (T11.setTop (mkF m 5 #[.val (.ref xa), .val (.double mn), .second, .val (.int (2 : Int32))] [(.int (3 : Int32)), (.int (2 : Int32))]))
  have hc5_16 : (2 : Int32) < (3 : Int32) := by decide
  refine Comes.st (fun t k => XS.icmpNo X11.here hx rfl (hb hby d26_5) rfl (tlt hc5_16).2.1 (XS.aloadN X11.here hx rfl (hb hby d26_8) rfl rfl (XS.iloadN X11.here hx rfl (hb hby d26_9) rfl k))) ?_
  show Comes p e below _ (T11.setTop (mkF m 10 #[.val (.ref xa), .val (.double mn), .second, .val (.int (2 : Int32))] [(.int (2 : Int32)), (.ref xa)]))
  obtain ⟨cl17, Ar17, q17, S17, Ng17, H17, Gf17⟩ := id G0
  have hin17 : ¬ ((2 : Int32) < 0 ∨ cl17.slots.size ≤ ((2 : Int32)).toNatClampNeg) := inb_of S17 ⟨by decide, by decide⟩
  refine Comes.st (fun t k => X11.daload hx (j := (2 : Int32)) (v := (.double (0 : UInt64))) (by rw [hs11]; exact Ar17.1) (State.isArrayOf_alike hZ.alike Ar17.2.1) Ar17.2.2 hin17 (Has.at H17 hin17 rfl) (g := (mkF m 10 #[.val (.ref xa), .val (.double mn), .second, .val (.int (2 : Int32))] [(.int (2 : Int32)), (.ref xa)])) rfl rfl (hb hby d26_10) _ k) ?_
  show Comes p e below _ (T11.setTop (mkF m 11 #[.val (.ref xa), .val (.double mn), .second, .val (.int (2 : Int32))] [(.double (0 : UInt64))]))
  obtain ⟨_, _, ⟨T18, L18, k18, n18⟩, -, X18, ⟨Lc18, hQ18, l18, y18, z18⟩, st18⟩ := Jvm.LawKit.callS X11 hx (y := (⟨"java/lang/Double", "isFinite", "(D)Z"⟩ : MethodName)) hown (mvT hZ (W hw 178)) (mvT hZ (W hw 179)) (mvT hZ (W hw 180)) (mvT hZ (W hw 181)) (by decide) (backOf (W := 0) (rm28 l Z a0 hw []  h0 n0 (by omega)  ) hZ (W hw 181) (W hw 180) (by decide) (by decide)) (g := (mkF m 11 #[.val (.ref xa), .val (.double mn), .second, .val (.int (2 : Int32))] [(.double (0 : UInt64))])) rfl (by rw [hml]; rfl) (argsL := [(.double (0 : UInt64))]) (rest := []) (lenOf pd_15 rfl) rfl (by show 2 * 0 + _ ≤ _; exact Nat.le_of_eq rfl) (hb hby d26_11) (fun _ _ => ⟨rfl, hs11, (by decide : 0 + 0 ≤ _), (by decide : 0 + 0 ≤ _)⟩)
  dsimp only [Pt.U, Pt.locs, Pt.cells, Pt.slots] at X18 l18 y18 z18 st18 hQ18
  subst l18 y18 z18
  obtain ⟨rfl, Nq18, hs18⟩ := hQ18
  have N18 := Fr.app N11 Nq18
  refine Comes.st st18 ?_
  show Comes p e below _ (T18.setTop (mkF m 14 #[.val (.ref xa), .val (.double mn), .second, .val (.int (2 : Int32))] [(.int (1 : Int32))]))
  have hc14_19 : ¬ ((1 : Int32) = (0 : Int32)) := by decide
  refine Comes.st (fun t k => XS.ifNo X18.here hx rfl (hb hby d26_14) rfl ((if0 _ _).trans (feq hc14_19).1) (XS.aloadN X18.here hx rfl (hb hby d26_17) rfl rfl (XS.iloadN X18.here hx rfl (hb hby d26_18) rfl k))) ?_
  show Comes p e below _ (T18.setTop (mkF m 19 #[.val (.ref xa), .val (.double mn), .second, .val (.int (2 : Int32))] [(.int (2 : Int32)), (.ref xa)]))
  obtain ⟨cl20, Ar20, q20, S20, Ng20, H20, Gf20⟩ := id G0
  have hin20 : ¬ ((2 : Int32) < 0 ∨ cl20.slots.size ≤ ((2 : Int32)).toNatClampNeg) := inb_of S20 ⟨by decide, by decide⟩
  refine Comes.st (fun t k => X18.daload hx (j := (2 : Int32)) (v := (.double (0 : UInt64))) (by rw [hs18]; exact Ar20.1) (State.isArrayOf_alike hZ.alike Ar20.2.1) Ar20.2.2 hin20 (Has.at H20 hin20 rfl) (g := (mkF m 19 #[.val (.ref xa), .val (.double mn), .second, .val (.int (2 : Int32))] [(.int (2 : Int32)), (.ref xa)])) rfl rfl (hb hby d26_19) _ (XS.dloadN X18.here hx rfl (hb hby d26_20) rfl k)) ?_
  show Comes p e below _ (T18.setTop (mkF m 21 #[.val (.ref xa), .val (.double mn), .second, .val (.int (2 : Int32))] [(.double mn), (.double (0 : UInt64))]))
  refine Comes.st (fun t k => XS.dcmpS X18.here hx rfl (hb hby d26_21) (v := cm) rfl G1 k) ?_
  show Comes p e below _ (T18.setTop (mkF m 22 #[.val (.ref xa), .val (.double mn), .second, .val (.int (2 : Int32))] [(.int cm)]))
  have hc22_21 : ¬ (cm < (0 : Int32)) := by assumption
  refine Comes.st (fun t k => XS.ifYes X18.here hx rfl (pc0 := 22) (pc' := 27) rfl (hb hby d26_22) rfl ((if0 _ _).trans (flt hc22_21).2.1) (by decide) (by decide) (XS.iinc X18.here hx rfl (hb hby d26_27) rfl (l' := #[.val (.ref xa), .val (.double mn), .second, .val (.int (3 : Int32))]) rfl (XS.goto X18.here hx rfl (pc0 := 30) (pc' := 2) rfl (hb hby d26_30) (by decide) (by decide) (XS.iloadN X18.here hx rfl (hb hby d26_2) rfl (XS.aloadN X18.here hx rfl (hb hby d26_3) rfl rfl k))))) ?_
  show Comes p e below _ (T18.setTop (mkF m 4 #[.val (.ref xa), .val (.double mn), .second, .val (.int (3 : Int32))] [(.ref xa), (.int (3 : Int32))]))
  obtain ⟨cl22, Ar22, -, S22, Ng22, -, -⟩ := id G0
  refine Comes.st (fun t k => X18.arraylength hx (by rw [hs18]; exact Ar22.1) (State.isArrayOf_alike hZ.alike Ar22.2.1) (g := (mkF m 4 #[.val (.ref xa), .val (.double mn), .second, .val (.int (3 : Int32))] [(.ref xa), (.int (3 : Int32))])) rfl rfl (hb hby d26_4) _ k) ?_
  rw [len_of S22 Ng22]
  show Comes p e below _ (T18.setTop (mkF m 5 #[.val (.ref xa), .val (.double mn), .second, .val (.int (3 : Int32))] [(.int (3 : Int32)), (.int (3 : Int32))]))
  have hc5_23 : ¬ ((3 : Int32) < (3 : Int32)) := by decide
  refine Comes.st (fun t k => XS.icmpYes X18.here hx rfl (pc0 := 5) (pc' := 33) rfl (hb hby d26_5) rfl (flt hc5_23).2.1 (by decide) (by decide) (XS.iconst X18.here hx rfl (hb hby d26_33) k)) ?_
  show Comes p e below _ (T18.setTop (mkF m 34 #[.val (.ref xa), .val (.double mn), .second, .val (.int (3 : Int32))] [(.int (-1 : Int32))]))
  exact Comes.retV X18 hx Bd.returns rfl (Or.inl ⟨rfl, Or.inl rfl, _, rfl⟩) hlk (hb hby d26_34) hs18 ⟨rfl, N18, rfl⟩ (by decide) (by decide)
def Q_fb4 (Z : State) (xa : Nat) (mn : UInt64) (ka : ClassId) (cm : Int32) (h0 : Heap) (n0 : Nat) (v_ : Option Value) (h : Heap) (L_ : List Loc) : Prop := (v_ = some (.int (-1 : Int32))) ∧ (Fr n0 L_) ∧ (h = h0)
theorem fb4 (l : Launch) (Z : State) (a0 : Array Value) (hw : ∀ d ∈ tables_1, d.before a0 Z = true) (ws : List Jvm.Cond) (xa : Nat) (mn : UInt64) (ka : ClassId) (cm : Int32) (h0 : Heap) (n0 : Nat) (Z0 : n0 ≤ h0.size) (G0 : Arv Z h0 xa ka .double (4 : Int32) [(.double (0 : UInt64)), (.double (0 : UInt64)), (.double (0 : UInt64)), (.double (0 : UInt64))] (.double (0 : UInt64))) (G1 : cmpValue (FP.dcmp (0 : UInt64) mn) .g = cm) (G2 : ¬ (cm < (0 : Int32))) :
    MetFree l (⟨"com/example/ordr/ordr/model/Layout", "firstBelow", "([DD)I"⟩ : MethodName) (head1 (Jvm.Cond.code (⟨"com/example/ordr/ordr/model/Layout", "firstBelow", "([DD)I"⟩ : MethodName) prog_86_method_18_code 4 (some .int) :: ws) (Rm 2 0 0 26)) (fun a_ U_ => a_ = #[(.ref xa), (.double mn)] ∧ Z.Warmed39 U_.vm ∧ U_.heap = h0) (fun _ _ _ _ _ => True) (fun _ U_ o_ V_ => ∃ v_ L_, o_ = .returned v_ ∧ Q_fb4 Z xa mn ka cm h0 n0 v_ V_.heap L_ ∧ FrameEnd U_ o_ V_ L_ (Rm 2 0 0 26).cells (Rm 2 0 0 26).slots) := by
  refine MetFree.of_bodySF (plainFor_of_name pn_26) hisR ?_
  intro p e s m args below meth c s₁ Bd hml0 hP hK
  obtain ⟨rfl, hZ, hh⟩ := hP
  have hx := Bd.exec
  have hby := Bd.bytes
  have hml : c.maxLocals = 4 := hml0
  have hown : s.vm.findClass "com/example/ordr/ordr/model/Layout" = some m.cls := findClass_of_methodNamed Bd.named
  have hnm := (name_of_methodNamed Bd.named Bd.method).1
  have hlk : meth.locks = false := Bd.notSynchronized
  have X0 : Stand p l e (Rm 2 0 0 26) s m #[(.ref xa), (.double mn)] below meth c s₁ [] 0 0 := Stand.of_body Bd
  have e0 : s₁.heap = h0 := by rw [← hh, Bd.state]; rfl
  have N0 := Fr.nil n0
  refine Comes.out (Q := Q_fb4 Z xa mn ka cm h0 n0) (kc := (Rm 2 0 0 26).cells) (ks := (Rm 2 0 0 26).slots) ?_
  refine Comes.cast (ef_fb4 m xa mn) ?_
  have lt_xa : xa < h0.size := G0.lt
  show Comes p e below _ (s₁.setTop (mkF m 0 #[.val (.ref xa), .val (.double mn), .second, .unset] []))
  refine Comes.st (fun t k => XS.iconst X0.here hx rfl (hb hby d26_0) (XS.istoreN X0.here hx rfl (hb hby d26_1) rfl (l' := #[.val (.ref xa), .val (.double mn), .second, .val (.int (0 : Int32))]) rfl (XS.iloadN X0.here hx rfl (hb hby d26_2) rfl (XS.aloadN X0.here hx rfl (hb hby d26_3) rfl rfl k)))) ?_
  show Comes p e below _ (s₁.setTop (mkF m 4 #[.val (.ref xa), .val (.double mn), .second, .val (.int (0 : Int32))] [(.ref xa), (.int (0 : Int32))]))
  obtain ⟨cl1, Ar1, -, S1, Ng1, -, -⟩ := id G0
  refine Comes.st (fun t k => X0.arraylength hx (by rw [e0]; exact Ar1.1) (State.isArrayOf_alike hZ.alike Ar1.2.1) (g := (mkF m 4 #[.val (.ref xa), .val (.double mn), .second, .val (.int (0 : Int32))] [(.ref xa), (.int (0 : Int32))])) rfl rfl (hb hby d26_4) _ k) ?_
  rw [len_of S1 Ng1]
  show Comes p e below _ (s₁.setTop (mkF m 5 #[.val (.ref xa), .val (.double mn), .second, .val (.int (0 : Int32))] [(.int (4 : Int32)), (.int (0 : Int32))]))
  have hc5_2 : (0 : Int32) < (4 : Int32) := by decide
  refine Comes.st (fun t k => XS.icmpNo X0.here hx rfl (hb hby d26_5) rfl (tlt hc5_2).2.1 (XS.aloadN X0.here hx rfl (hb hby d26_8) rfl rfl (XS.iloadN X0.here hx rfl (hb hby d26_9) rfl k))) ?_
  show Comes p e below _ (s₁.setTop (mkF m 10 #[.val (.ref xa), .val (.double mn), .second, .val (.int (0 : Int32))] [(.int (0 : Int32)), (.ref xa)]))
  obtain ⟨cl3, Ar3, q3, S3, Ng3, H3, Gf3⟩ := id G0
  have hin3 : ¬ ((0 : Int32) < 0 ∨ cl3.slots.size ≤ ((0 : Int32)).toNatClampNeg) := inb_of S3 ⟨by decide, by decide⟩
  refine Comes.st (fun t k => X0.daload hx (j := (0 : Int32)) (v := (.double (0 : UInt64))) (by rw [e0]; exact Ar3.1) (State.isArrayOf_alike hZ.alike Ar3.2.1) Ar3.2.2 hin3 (Has.at H3 hin3 rfl) (g := (mkF m 10 #[.val (.ref xa), .val (.double mn), .second, .val (.int (0 : Int32))] [(.int (0 : Int32)), (.ref xa)])) rfl rfl (hb hby d26_10) _ k) ?_
  show Comes p e below _ (s₁.setTop (mkF m 11 #[.val (.ref xa), .val (.double mn), .second, .val (.int (0 : Int32))] [(.double (0 : UInt64))]))
  obtain ⟨_, _, ⟨T4, L4, k4, n4⟩, -, X4, ⟨Lc4, hQ4, l4, y4, z4⟩, st4⟩ := Jvm.LawKit.callS X0 hx (y := (⟨"java/lang/Double", "isFinite", "(D)Z"⟩ : MethodName)) hown (mvT hZ (W hw 178)) (mvT hZ (W hw 179)) (mvT hZ (W hw 180)) (mvT hZ (W hw 181)) (by decide) (backOf (W := 0) (rm28 l Z a0 hw []  h0 n0 (by omega)  ) hZ (W hw 181) (W hw 180) (by decide) (by decide)) (g := (mkF m 11 #[.val (.ref xa), .val (.double mn), .second, .val (.int (0 : Int32))] [(.double (0 : UInt64))])) rfl (by rw [hml]; rfl) (argsL := [(.double (0 : UInt64))]) (rest := []) (lenOf pd_15 rfl) rfl (by show 2 * 0 + _ ≤ _; exact Nat.le_of_eq rfl) (hb hby d26_11) (fun _ _ => ⟨rfl, e0, (by decide : 0 + 0 ≤ _), (by decide : 0 + 0 ≤ _)⟩)
  dsimp only [Pt.U, Pt.locs, Pt.cells, Pt.slots] at X4 l4 y4 z4 st4 hQ4
  subst l4 y4 z4
  obtain ⟨rfl, Nq4, hs4⟩ := hQ4
  have N4 := Fr.app N0 Nq4
  refine Comes.st st4 ?_
  show Comes p e below _ (T4.setTop (mkF m 14 #[.val (.ref xa), .val (.double mn), .second, .val (.int (0 : Int32))] [(.int (1 : Int32))]))
  have hc14_5 : ¬ ((1 : Int32) = (0 : Int32)) := by decide
  refine Comes.st (fun t k => XS.ifNo X4.here hx rfl (hb hby d26_14) rfl ((if0 _ _).trans (feq hc14_5).1) (XS.aloadN X4.here hx rfl (hb hby d26_17) rfl rfl (XS.iloadN X4.here hx rfl (hb hby d26_18) rfl k))) ?_
  show Comes p e below _ (T4.setTop (mkF m 19 #[.val (.ref xa), .val (.double mn), .second, .val (.int (0 : Int32))] [(.int (0 : Int32)), (.ref xa)]))
  obtain ⟨cl6, Ar6, q6, S6, Ng6, H6, Gf6⟩ := id G0
  have hin6 : ¬ ((0 : Int32) < 0 ∨ cl6.slots.size ≤ ((0 : Int32)).toNatClampNeg) := inb_of S6 ⟨by decide, by decide⟩
  refine Comes.st (fun t k => X4.daload hx (j := (0 : Int32)) (v := (.double (0 : UInt64))) (by rw [hs4]; exact Ar6.1) (State.isArrayOf_alike hZ.alike Ar6.2.1) Ar6.2.2 hin6 (Has.at H6 hin6 rfl) (g := (mkF m 19 #[.val (.ref xa), .val (.double mn), .second, .val (.int (0 : Int32))] [(.int (0 : Int32)), (.ref xa)])) rfl rfl (hb hby d26_19) _ (XS.dloadN X4.here hx rfl (hb hby d26_20) rfl k)) ?_
  show Comes p e below _ (T4.setTop (mkF m 21 #[.val (.ref xa), .val (.double mn), .second, .val (.int (0 : Int32))] [(.double mn), (.double (0 : UInt64))]))
  refine Comes.st (fun t k => XS.dcmpS X4.here hx rfl (hb hby d26_21) (v := cm) rfl G1 k) ?_
  show Comes p e below _ (T4.setTop (mkF m 22 #[.val (.ref xa), .val (.double mn), .second, .val (.int (0 : Int32))] [(.int cm)]))
  have hc22_7 : ¬ (cm < (0 : Int32)) := by assumption
  refine Comes.st (fun t k => XS.ifYes X4.here hx rfl (pc0 := 22) (pc' := 27) rfl (hb hby d26_22) rfl ((if0 _ _).trans (flt hc22_7).2.1) (by decide) (by decide) (XS.iinc X4.here hx rfl (hb hby d26_27) rfl (l' := #[.val (.ref xa), .val (.double mn), .second, .val (.int (1 : Int32))]) rfl (XS.goto X4.here hx rfl (pc0 := 30) (pc' := 2) rfl (hb hby d26_30) (by decide) (by decide) (XS.iloadN X4.here hx rfl (hb hby d26_2) rfl (XS.aloadN X4.here hx rfl (hb hby d26_3) rfl rfl k))))) ?_
  show Comes p e below _ (T4.setTop (mkF m 4 #[.val (.ref xa), .val (.double mn), .second, .val (.int (1 : Int32))] [(.ref xa), (.int (1 : Int32))]))
  obtain ⟨cl8, Ar8, -, S8, Ng8, -, -⟩ := id G0
  refine Comes.st (fun t k => X4.arraylength hx (by rw [hs4]; exact Ar8.1) (State.isArrayOf_alike hZ.alike Ar8.2.1) (g := (mkF m 4 #[.val (.ref xa), .val (.double mn), .second, .val (.int (1 : Int32))] [(.ref xa), (.int (1 : Int32))])) rfl rfl (hb hby d26_4) _ k) ?_
  rw [len_of S8 Ng8]
  show Comes p e below _ (T4.setTop (mkF m 5 #[.val (.ref xa), .val (.double mn), .second, .val (.int (1 : Int32))] [(.int (4 : Int32)), (.int (1 : Int32))]))
  have hc5_9 : (1 : Int32) < (4 : Int32) := by decide
  refine Comes.st (fun t k => XS.icmpNo X4.here hx rfl (hb hby d26_5) rfl (tlt hc5_9).2.1 (XS.aloadN X4.here hx rfl (hb hby d26_8) rfl rfl (XS.iloadN X4.here hx rfl (hb hby d26_9) rfl k))) ?_
  show Comes p e below _ (T4.setTop (mkF m 10 #[.val (.ref xa), .val (.double mn), .second, .val (.int (1 : Int32))] [(.int (1 : Int32)), (.ref xa)]))
  obtain ⟨cl10, Ar10, q10, S10, Ng10, H10, Gf10⟩ := id G0
  have hin10 : ¬ ((1 : Int32) < 0 ∨ cl10.slots.size ≤ ((1 : Int32)).toNatClampNeg) := inb_of S10 ⟨by decide, by decide⟩
  refine Comes.st (fun t k => X4.daload hx (j := (1 : Int32)) (v := (.double (0 : UInt64))) (by rw [hs4]; exact Ar10.1) (State.isArrayOf_alike hZ.alike Ar10.2.1) Ar10.2.2 hin10 (Has.at H10 hin10 rfl) (g := (mkF m 10 #[.val (.ref xa), .val (.double mn), .second, .val (.int (1 : Int32))] [(.int (1 : Int32)), (.ref xa)])) rfl rfl (hb hby d26_10) _ k) ?_
  show Comes p e below _ (T4.setTop (mkF m 11 #[.val (.ref xa), .val (.double mn), .second, .val (.int (1 : Int32))] [(.double (0 : UInt64))]))
  obtain ⟨_, _, ⟨T11, L11, k11, n11⟩, -, X11, ⟨Lc11, hQ11, l11, y11, z11⟩, st11⟩ := Jvm.LawKit.callS X4 hx (y := (⟨"java/lang/Double", "isFinite", "(D)Z"⟩ : MethodName)) hown (mvT hZ (W hw 178)) (mvT hZ (W hw 179)) (mvT hZ (W hw 180)) (mvT hZ (W hw 181)) (by decide) (backOf (W := 0) (rm28 l Z a0 hw []  h0 n0 (by omega)  ) hZ (W hw 181) (W hw 180) (by decide) (by decide)) (g := (mkF m 11 #[.val (.ref xa), .val (.double mn), .second, .val (.int (1 : Int32))] [(.double (0 : UInt64))])) rfl (by rw [hml]; rfl) (argsL := [(.double (0 : UInt64))]) (rest := []) (lenOf pd_15 rfl) rfl (by show 2 * 0 + _ ≤ _; exact Nat.le_of_eq rfl) (hb hby d26_11) (fun _ _ => ⟨rfl, hs4, (by decide : 0 + 0 ≤ _), (by decide : 0 + 0 ≤ _)⟩)
  dsimp only [Pt.U, Pt.locs, Pt.cells, Pt.slots] at X11 l11 y11 z11 st11 hQ11
  subst l11 y11 z11
  obtain ⟨rfl, Nq11, hs11⟩ := hQ11
  have N11 := Fr.app N4 Nq11
  refine Comes.st st11 ?_
  show Comes p e below _ (T11.setTop (mkF m 14 #[.val (.ref xa), .val (.double mn), .second, .val (.int (1 : Int32))] [(.int (1 : Int32))]))
  have hc14_12 : ¬ ((1 : Int32) = (0 : Int32)) := by decide
  refine Comes.st (fun t k => XS.ifNo X11.here hx rfl (hb hby d26_14) rfl ((if0 _ _).trans (feq hc14_12).1) (XS.aloadN X11.here hx rfl (hb hby d26_17) rfl rfl (XS.iloadN X11.here hx rfl (hb hby d26_18) rfl k))) ?_
  show Comes p e below _ (T11.setTop (mkF m 19 #[.val (.ref xa), .val (.double mn), .second, .val (.int (1 : Int32))] [(.int (1 : Int32)), (.ref xa)]))
  obtain ⟨cl13, Ar13, q13, S13, Ng13, H13, Gf13⟩ := id G0
  have hin13 : ¬ ((1 : Int32) < 0 ∨ cl13.slots.size ≤ ((1 : Int32)).toNatClampNeg) := inb_of S13 ⟨by decide, by decide⟩
  refine Comes.st (fun t k => X11.daload hx (j := (1 : Int32)) (v := (.double (0 : UInt64))) (by rw [hs11]; exact Ar13.1) (State.isArrayOf_alike hZ.alike Ar13.2.1) Ar13.2.2 hin13 (Has.at H13 hin13 rfl) (g := (mkF m 19 #[.val (.ref xa), .val (.double mn), .second, .val (.int (1 : Int32))] [(.int (1 : Int32)), (.ref xa)])) rfl rfl (hb hby d26_19) _ (XS.dloadN X11.here hx rfl (hb hby d26_20) rfl k)) ?_
  show Comes p e below _ (T11.setTop (mkF m 21 #[.val (.ref xa), .val (.double mn), .second, .val (.int (1 : Int32))] [(.double mn), (.double (0 : UInt64))]))
  refine Comes.st (fun t k => XS.dcmpS X11.here hx rfl (hb hby d26_21) (v := cm) rfl G1 k) ?_
  show Comes p e below _ (T11.setTop (mkF m 22 #[.val (.ref xa), .val (.double mn), .second, .val (.int (1 : Int32))] [(.int cm)]))
  have hc22_14 : ¬ (cm < (0 : Int32)) := by assumption
  refine Comes.st (fun t k => XS.ifYes X11.here hx rfl (pc0 := 22) (pc' := 27) rfl (hb hby d26_22) rfl ((if0 _ _).trans (flt hc22_14).2.1) (by decide) (by decide) (XS.iinc X11.here hx rfl (hb hby d26_27) rfl (l' := #[.val (.ref xa), .val (.double mn), .second, .val (.int (2 : Int32))]) rfl (XS.goto X11.here hx rfl (pc0 := 30) (pc' := 2) rfl (hb hby d26_30) (by decide) (by decide) (XS.iloadN X11.here hx rfl (hb hby d26_2) rfl (XS.aloadN X11.here hx rfl (hb hby d26_3) rfl rfl k))))) ?_
  show Comes p e below _ (T11.setTop (mkF m 4 #[.val (.ref xa), .val (.double mn), .second, .val (.int (2 : Int32))] [(.ref xa), (.int (2 : Int32))]))
  obtain ⟨cl15, Ar15, -, S15, Ng15, -, -⟩ := id G0
  refine Comes.st (fun t k => X11.arraylength hx (by rw [hs11]; exact Ar15.1) (State.isArrayOf_alike hZ.alike Ar15.2.1) (g := (mkF m 4 #[.val (.ref xa), .val (.double mn), .second, .val (.int (2 : Int32))] [(.ref xa), (.int (2 : Int32))])) rfl rfl (hb hby d26_4) _ k) ?_
  rw [len_of S15 Ng15]
  show Comes p e below _ (T11.setTop (mkF m 5 #[.val (.ref xa), .val (.double mn), .second, .val (.int (2 : Int32))] [(.int (4 : Int32)), (.int (2 : Int32))]))
  have hc5_16 : (2 : Int32) < (4 : Int32) := by decide
  refine Comes.st (fun t k => XS.icmpNo X11.here hx rfl (hb hby d26_5) rfl (tlt hc5_16).2.1 (XS.aloadN X11.here hx rfl (hb hby d26_8) rfl rfl (XS.iloadN X11.here hx rfl (hb hby d26_9) rfl k))) ?_
  show Comes p e below _ (T11.setTop (mkF m 10 #[.val (.ref xa), .val (.double mn), .second, .val (.int (2 : Int32))] [(.int (2 : Int32)), (.ref xa)]))
  obtain ⟨cl17, Ar17, q17, S17, Ng17, H17, Gf17⟩ := id G0
  have hin17 : ¬ ((2 : Int32) < 0 ∨ cl17.slots.size ≤ ((2 : Int32)).toNatClampNeg) := inb_of S17 ⟨by decide, by decide⟩
  refine Comes.st (fun t k => X11.daload hx (j := (2 : Int32)) (v := (.double (0 : UInt64))) (by rw [hs11]; exact Ar17.1) (State.isArrayOf_alike hZ.alike Ar17.2.1) Ar17.2.2 hin17 (Has.at H17 hin17 rfl) (g := (mkF m 10 #[.val (.ref xa), .val (.double mn), .second, .val (.int (2 : Int32))] [(.int (2 : Int32)), (.ref xa)])) rfl rfl (hb hby d26_10) _ k) ?_
  show Comes p e below _ (T11.setTop (mkF m 11 #[.val (.ref xa), .val (.double mn), .second, .val (.int (2 : Int32))] [(.double (0 : UInt64))]))
  obtain ⟨_, _, ⟨T18, L18, k18, n18⟩, -, X18, ⟨Lc18, hQ18, l18, y18, z18⟩, st18⟩ := Jvm.LawKit.callS X11 hx (y := (⟨"java/lang/Double", "isFinite", "(D)Z"⟩ : MethodName)) hown (mvT hZ (W hw 178)) (mvT hZ (W hw 179)) (mvT hZ (W hw 180)) (mvT hZ (W hw 181)) (by decide) (backOf (W := 0) (rm28 l Z a0 hw []  h0 n0 (by omega)  ) hZ (W hw 181) (W hw 180) (by decide) (by decide)) (g := (mkF m 11 #[.val (.ref xa), .val (.double mn), .second, .val (.int (2 : Int32))] [(.double (0 : UInt64))])) rfl (by rw [hml]; rfl) (argsL := [(.double (0 : UInt64))]) (rest := []) (lenOf pd_15 rfl) rfl (by show 2 * 0 + _ ≤ _; exact Nat.le_of_eq rfl) (hb hby d26_11) (fun _ _ => ⟨rfl, hs11, (by decide : 0 + 0 ≤ _), (by decide : 0 + 0 ≤ _)⟩)
  dsimp only [Pt.U, Pt.locs, Pt.cells, Pt.slots] at X18 l18 y18 z18 st18 hQ18
  subst l18 y18 z18
  obtain ⟨rfl, Nq18, hs18⟩ := hQ18
  have N18 := Fr.app N11 Nq18
  refine Comes.st st18 ?_
  show Comes p e below _ (T18.setTop (mkF m 14 #[.val (.ref xa), .val (.double mn), .second, .val (.int (2 : Int32))] [(.int (1 : Int32))]))
  have hc14_19 : ¬ ((1 : Int32) = (0 : Int32)) := by decide
  refine Comes.st (fun t k => XS.ifNo X18.here hx rfl (hb hby d26_14) rfl ((if0 _ _).trans (feq hc14_19).1) (XS.aloadN X18.here hx rfl (hb hby d26_17) rfl rfl (XS.iloadN X18.here hx rfl (hb hby d26_18) rfl k))) ?_
  show Comes p e below _ (T18.setTop (mkF m 19 #[.val (.ref xa), .val (.double mn), .second, .val (.int (2 : Int32))] [(.int (2 : Int32)), (.ref xa)]))
  obtain ⟨cl20, Ar20, q20, S20, Ng20, H20, Gf20⟩ := id G0
  have hin20 : ¬ ((2 : Int32) < 0 ∨ cl20.slots.size ≤ ((2 : Int32)).toNatClampNeg) := inb_of S20 ⟨by decide, by decide⟩
  refine Comes.st (fun t k => X18.daload hx (j := (2 : Int32)) (v := (.double (0 : UInt64))) (by rw [hs18]; exact Ar20.1) (State.isArrayOf_alike hZ.alike Ar20.2.1) Ar20.2.2 hin20 (Has.at H20 hin20 rfl) (g := (mkF m 19 #[.val (.ref xa), .val (.double mn), .second, .val (.int (2 : Int32))] [(.int (2 : Int32)), (.ref xa)])) rfl rfl (hb hby d26_19) _ (XS.dloadN X18.here hx rfl (hb hby d26_20) rfl k)) ?_
  show Comes p e below _ (T18.setTop (mkF m 21 #[.val (.ref xa), .val (.double mn), .second, .val (.int (2 : Int32))] [(.double mn), (.double (0 : UInt64))]))
  refine Comes.st (fun t k => XS.dcmpS X18.here hx rfl (hb hby d26_21) (v := cm) rfl G1 k) ?_
  show Comes p e below _ (T18.setTop (mkF m 22 #[.val (.ref xa), .val (.double mn), .second, .val (.int (2 : Int32))] [(.int cm)]))
  have hc22_21 : ¬ (cm < (0 : Int32)) := by assumption
  refine Comes.st (fun t k => XS.ifYes X18.here hx rfl (pc0 := 22) (pc' := 27) rfl (hb hby d26_22) rfl ((if0 _ _).trans (flt hc22_21).2.1) (by decide) (by decide) (XS.iinc X18.here hx rfl (hb hby d26_27) rfl (l' := #[.val (.ref xa), .val (.double mn), .second, .val (.int (3 : Int32))]) rfl (XS.goto X18.here hx rfl (pc0 := 30) (pc' := 2) rfl (hb hby d26_30) (by decide) (by decide) (XS.iloadN X18.here hx rfl (hb hby d26_2) rfl (XS.aloadN X18.here hx rfl (hb hby d26_3) rfl rfl k))))) ?_
  show Comes p e below _ (T18.setTop (mkF m 4 #[.val (.ref xa), .val (.double mn), .second, .val (.int (3 : Int32))] [(.ref xa), (.int (3 : Int32))]))
  obtain ⟨cl22, Ar22, -, S22, Ng22, -, -⟩ := id G0
  refine Comes.st (fun t k => X18.arraylength hx (by rw [hs18]; exact Ar22.1) (State.isArrayOf_alike hZ.alike Ar22.2.1) (g := (mkF m 4 #[.val (.ref xa), .val (.double mn), .second, .val (.int (3 : Int32))] [(.ref xa), (.int (3 : Int32))])) rfl rfl (hb hby d26_4) _ k) ?_
  rw [len_of S22 Ng22]
  show Comes p e below _ (T18.setTop (mkF m 5 #[.val (.ref xa), .val (.double mn), .second, .val (.int (3 : Int32))] [(.int (4 : Int32)), (.int (3 : Int32))]))
  have hc5_23 : (3 : Int32) < (4 : Int32) := by decide
  refine Comes.st (fun t k => XS.icmpNo X18.here hx rfl (hb hby d26_5) rfl (tlt hc5_23).2.1 (XS.aloadN X18.here hx rfl (hb hby d26_8) rfl rfl (XS.iloadN X18.here hx rfl (hb hby d26_9) rfl k))) ?_
  show Comes p e below _ (T18.setTop (mkF m 10 #[.val (.ref xa), .val (.double mn), .second, .val (.int (3 : Int32))] [(.int (3 : Int32)), (.ref xa)]))
  obtain ⟨cl24, Ar24, q24, S24, Ng24, H24, Gf24⟩ := id G0
  have hin24 : ¬ ((3 : Int32) < 0 ∨ cl24.slots.size ≤ ((3 : Int32)).toNatClampNeg) := inb_of S24 ⟨by decide, by decide⟩
  refine Comes.st (fun t k => X18.daload hx (j := (3 : Int32)) (v := (.double (0 : UInt64))) (by rw [hs18]; exact Ar24.1) (State.isArrayOf_alike hZ.alike Ar24.2.1) Ar24.2.2 hin24 (Has.at H24 hin24 rfl) (g := (mkF m 10 #[.val (.ref xa), .val (.double mn), .second, .val (.int (3 : Int32))] [(.int (3 : Int32)), (.ref xa)])) rfl rfl (hb hby d26_10) _ k) ?_
  show Comes p e below _ (T18.setTop (mkF m 11 #[.val (.ref xa), .val (.double mn), .second, .val (.int (3 : Int32))] [(.double (0 : UInt64))]))
  obtain ⟨_, _, ⟨T25, L25, k25, n25⟩, -, X25, ⟨Lc25, hQ25, l25, y25, z25⟩, st25⟩ := Jvm.LawKit.callS X18 hx (y := (⟨"java/lang/Double", "isFinite", "(D)Z"⟩ : MethodName)) hown (mvT hZ (W hw 178)) (mvT hZ (W hw 179)) (mvT hZ (W hw 180)) (mvT hZ (W hw 181)) (by decide) (backOf (W := 0) (rm28 l Z a0 hw []  h0 n0 (by omega)  ) hZ (W hw 181) (W hw 180) (by decide) (by decide)) (g := (mkF m 11 #[.val (.ref xa), .val (.double mn), .second, .val (.int (3 : Int32))] [(.double (0 : UInt64))])) rfl (by rw [hml]; rfl) (argsL := [(.double (0 : UInt64))]) (rest := []) (lenOf pd_15 rfl) rfl (by show 2 * 0 + _ ≤ _; exact Nat.le_of_eq rfl) (hb hby d26_11) (fun _ _ => ⟨rfl, hs18, (by decide : 0 + 0 ≤ _), (by decide : 0 + 0 ≤ _)⟩)
  dsimp only [Pt.U, Pt.locs, Pt.cells, Pt.slots] at X25 l25 y25 z25 st25 hQ25
  subst l25 y25 z25
  obtain ⟨rfl, Nq25, hs25⟩ := hQ25
  have N25 := Fr.app N18 Nq25
  refine Comes.st st25 ?_
  show Comes p e below _ (T25.setTop (mkF m 14 #[.val (.ref xa), .val (.double mn), .second, .val (.int (3 : Int32))] [(.int (1 : Int32))]))
  have hc14_26 : ¬ ((1 : Int32) = (0 : Int32)) := by decide
  refine Comes.st (fun t k => XS.ifNo X25.here hx rfl (hb hby d26_14) rfl ((if0 _ _).trans (feq hc14_26).1) (XS.aloadN X25.here hx rfl (hb hby d26_17) rfl rfl (XS.iloadN X25.here hx rfl (hb hby d26_18) rfl k))) ?_
  show Comes p e below _ (T25.setTop (mkF m 19 #[.val (.ref xa), .val (.double mn), .second, .val (.int (3 : Int32))] [(.int (3 : Int32)), (.ref xa)]))
  obtain ⟨cl27, Ar27, q27, S27, Ng27, H27, Gf27⟩ := id G0
  have hin27 : ¬ ((3 : Int32) < 0 ∨ cl27.slots.size ≤ ((3 : Int32)).toNatClampNeg) := inb_of S27 ⟨by decide, by decide⟩
  refine Comes.st (fun t k => X25.daload hx (j := (3 : Int32)) (v := (.double (0 : UInt64))) (by rw [hs25]; exact Ar27.1) (State.isArrayOf_alike hZ.alike Ar27.2.1) Ar27.2.2 hin27 (Has.at H27 hin27 rfl) (g := (mkF m 19 #[.val (.ref xa), .val (.double mn), .second, .val (.int (3 : Int32))] [(.int (3 : Int32)), (.ref xa)])) rfl rfl (hb hby d26_19) _ (XS.dloadN X25.here hx rfl (hb hby d26_20) rfl k)) ?_
  show Comes p e below _ (T25.setTop (mkF m 21 #[.val (.ref xa), .val (.double mn), .second, .val (.int (3 : Int32))] [(.double mn), (.double (0 : UInt64))]))
  refine Comes.st (fun t k => XS.dcmpS X25.here hx rfl (hb hby d26_21) (v := cm) rfl G1 k) ?_
  show Comes p e below _ (T25.setTop (mkF m 22 #[.val (.ref xa), .val (.double mn), .second, .val (.int (3 : Int32))] [(.int cm)]))
  have hc22_28 : ¬ (cm < (0 : Int32)) := by assumption
  refine Comes.st (fun t k => XS.ifYes X25.here hx rfl (pc0 := 22) (pc' := 27) rfl (hb hby d26_22) rfl ((if0 _ _).trans (flt hc22_28).2.1) (by decide) (by decide) (XS.iinc X25.here hx rfl (hb hby d26_27) rfl (l' := #[.val (.ref xa), .val (.double mn), .second, .val (.int (4 : Int32))]) rfl (XS.goto X25.here hx rfl (pc0 := 30) (pc' := 2) rfl (hb hby d26_30) (by decide) (by decide) (XS.iloadN X25.here hx rfl (hb hby d26_2) rfl (XS.aloadN X25.here hx rfl (hb hby d26_3) rfl rfl k))))) ?_
  show Comes p e below _ (T25.setTop (mkF m 4 #[.val (.ref xa), .val (.double mn), .second, .val (.int (4 : Int32))] [(.ref xa), (.int (4 : Int32))]))
  obtain ⟨cl29, Ar29, -, S29, Ng29, -, -⟩ := id G0
  refine Comes.st (fun t k => X25.arraylength hx (by rw [hs25]; exact Ar29.1) (State.isArrayOf_alike hZ.alike Ar29.2.1) (g := (mkF m 4 #[.val (.ref xa), .val (.double mn), .second, .val (.int (4 : Int32))] [(.ref xa), (.int (4 : Int32))])) rfl rfl (hb hby d26_4) _ k) ?_
  rw [len_of S29 Ng29]
  show Comes p e below _ (T25.setTop (mkF m 5 #[.val (.ref xa), .val (.double mn), .second, .val (.int (4 : Int32))] [(.int (4 : Int32)), (.int (4 : Int32))]))
  have hc5_30 : ¬ ((4 : Int32) < (4 : Int32)) := by decide
  refine Comes.st (fun t k => XS.icmpYes X25.here hx rfl (pc0 := 5) (pc' := 33) rfl (hb hby d26_5) rfl (flt hc5_30).2.1 (by decide) (by decide) (XS.iconst X25.here hx rfl (hb hby d26_33) k)) ?_
  show Comes p e below _ (T25.setTop (mkF m 34 #[.val (.ref xa), .val (.double mn), .second, .val (.int (4 : Int32))] [(.int (-1 : Int32))]))
  exact Comes.retV X25 hx Bd.returns rfl (Or.inl ⟨rfl, Or.inl rfl, _, rfl⟩) hlk (hb hby d26_34) hs25 ⟨rfl, N25, rfl⟩ (by decide) (by decide)
def Q_fb5 (Z : State) (xa : Nat) (mn : UInt64) (ka : ClassId) (cm : Int32) (h0 : Heap) (n0 : Nat) (v_ : Option Value) (h : Heap) (L_ : List Loc) : Prop := (v_ = some (.int (-1 : Int32))) ∧ (Fr n0 L_) ∧ (h = h0)
theorem fb5 (l : Launch) (Z : State) (a0 : Array Value) (hw : ∀ d ∈ tables_1, d.before a0 Z = true) (ws : List Jvm.Cond) (xa : Nat) (mn : UInt64) (ka : ClassId) (cm : Int32) (h0 : Heap) (n0 : Nat) (Z0 : n0 ≤ h0.size) (G0 : Arv Z h0 xa ka .double (5 : Int32) [(.double (0 : UInt64)), (.double (0 : UInt64)), (.double (0 : UInt64)), (.double (0 : UInt64)), (.double (0 : UInt64))] (.double (0 : UInt64))) (G1 : cmpValue (FP.dcmp (0 : UInt64) mn) .g = cm) (G2 : ¬ (cm < (0 : Int32))) :
    MetFree l (⟨"com/example/ordr/ordr/model/Layout", "firstBelow", "([DD)I"⟩ : MethodName) (head1 (Jvm.Cond.code (⟨"com/example/ordr/ordr/model/Layout", "firstBelow", "([DD)I"⟩ : MethodName) prog_86_method_18_code 4 (some .int) :: ws) (Rm 2 0 0 26)) (fun a_ U_ => a_ = #[(.ref xa), (.double mn)] ∧ Z.Warmed39 U_.vm ∧ U_.heap = h0) (fun _ _ _ _ _ => True) (fun _ U_ o_ V_ => ∃ v_ L_, o_ = .returned v_ ∧ Q_fb5 Z xa mn ka cm h0 n0 v_ V_.heap L_ ∧ FrameEnd U_ o_ V_ L_ (Rm 2 0 0 26).cells (Rm 2 0 0 26).slots) := by
  refine MetFree.of_bodySF (plainFor_of_name pn_26) hisR ?_
  intro p e s m args below meth c s₁ Bd hml0 hP hK
  obtain ⟨rfl, hZ, hh⟩ := hP
  have hx := Bd.exec
  have hby := Bd.bytes
  have hml : c.maxLocals = 4 := hml0
  have hown : s.vm.findClass "com/example/ordr/ordr/model/Layout" = some m.cls := findClass_of_methodNamed Bd.named
  have hnm := (name_of_methodNamed Bd.named Bd.method).1
  have hlk : meth.locks = false := Bd.notSynchronized
  have X0 : Stand p l e (Rm 2 0 0 26) s m #[(.ref xa), (.double mn)] below meth c s₁ [] 0 0 := Stand.of_body Bd
  have e0 : s₁.heap = h0 := by rw [← hh, Bd.state]; rfl
  have N0 := Fr.nil n0
  refine Comes.out (Q := Q_fb5 Z xa mn ka cm h0 n0) (kc := (Rm 2 0 0 26).cells) (ks := (Rm 2 0 0 26).slots) ?_
  refine Comes.cast (ef_fb5 m xa mn) ?_
  have lt_xa : xa < h0.size := G0.lt
  show Comes p e below _ (s₁.setTop (mkF m 0 #[.val (.ref xa), .val (.double mn), .second, .unset] []))
  refine Comes.st (fun t k => XS.iconst X0.here hx rfl (hb hby d26_0) (XS.istoreN X0.here hx rfl (hb hby d26_1) rfl (l' := #[.val (.ref xa), .val (.double mn), .second, .val (.int (0 : Int32))]) rfl (XS.iloadN X0.here hx rfl (hb hby d26_2) rfl (XS.aloadN X0.here hx rfl (hb hby d26_3) rfl rfl k)))) ?_
  show Comes p e below _ (s₁.setTop (mkF m 4 #[.val (.ref xa), .val (.double mn), .second, .val (.int (0 : Int32))] [(.ref xa), (.int (0 : Int32))]))
  obtain ⟨cl1, Ar1, -, S1, Ng1, -, -⟩ := id G0
  refine Comes.st (fun t k => X0.arraylength hx (by rw [e0]; exact Ar1.1) (State.isArrayOf_alike hZ.alike Ar1.2.1) (g := (mkF m 4 #[.val (.ref xa), .val (.double mn), .second, .val (.int (0 : Int32))] [(.ref xa), (.int (0 : Int32))])) rfl rfl (hb hby d26_4) _ k) ?_
  rw [len_of S1 Ng1]
  show Comes p e below _ (s₁.setTop (mkF m 5 #[.val (.ref xa), .val (.double mn), .second, .val (.int (0 : Int32))] [(.int (5 : Int32)), (.int (0 : Int32))]))
  have hc5_2 : (0 : Int32) < (5 : Int32) := by decide
  refine Comes.st (fun t k => XS.icmpNo X0.here hx rfl (hb hby d26_5) rfl (tlt hc5_2).2.1 (XS.aloadN X0.here hx rfl (hb hby d26_8) rfl rfl (XS.iloadN X0.here hx rfl (hb hby d26_9) rfl k))) ?_
  show Comes p e below _ (s₁.setTop (mkF m 10 #[.val (.ref xa), .val (.double mn), .second, .val (.int (0 : Int32))] [(.int (0 : Int32)), (.ref xa)]))
  obtain ⟨cl3, Ar3, q3, S3, Ng3, H3, Gf3⟩ := id G0
  have hin3 : ¬ ((0 : Int32) < 0 ∨ cl3.slots.size ≤ ((0 : Int32)).toNatClampNeg) := inb_of S3 ⟨by decide, by decide⟩
  refine Comes.st (fun t k => X0.daload hx (j := (0 : Int32)) (v := (.double (0 : UInt64))) (by rw [e0]; exact Ar3.1) (State.isArrayOf_alike hZ.alike Ar3.2.1) Ar3.2.2 hin3 (Has.at H3 hin3 rfl) (g := (mkF m 10 #[.val (.ref xa), .val (.double mn), .second, .val (.int (0 : Int32))] [(.int (0 : Int32)), (.ref xa)])) rfl rfl (hb hby d26_10) _ k) ?_
  show Comes p e below _ (s₁.setTop (mkF m 11 #[.val (.ref xa), .val (.double mn), .second, .val (.int (0 : Int32))] [(.double (0 : UInt64))]))
  obtain ⟨_, _, ⟨T4, L4, k4, n4⟩, -, X4, ⟨Lc4, hQ4, l4, y4, z4⟩, st4⟩ := Jvm.LawKit.callS X0 hx (y := (⟨"java/lang/Double", "isFinite", "(D)Z"⟩ : MethodName)) hown (mvT hZ (W hw 178)) (mvT hZ (W hw 179)) (mvT hZ (W hw 180)) (mvT hZ (W hw 181)) (by decide) (backOf (W := 0) (rm28 l Z a0 hw []  h0 n0 (by omega)  ) hZ (W hw 181) (W hw 180) (by decide) (by decide)) (g := (mkF m 11 #[.val (.ref xa), .val (.double mn), .second, .val (.int (0 : Int32))] [(.double (0 : UInt64))])) rfl (by rw [hml]; rfl) (argsL := [(.double (0 : UInt64))]) (rest := []) (lenOf pd_15 rfl) rfl (by show 2 * 0 + _ ≤ _; exact Nat.le_of_eq rfl) (hb hby d26_11) (fun _ _ => ⟨rfl, e0, (by decide : 0 + 0 ≤ _), (by decide : 0 + 0 ≤ _)⟩)
  dsimp only [Pt.U, Pt.locs, Pt.cells, Pt.slots] at X4 l4 y4 z4 st4 hQ4
  subst l4 y4 z4
  obtain ⟨rfl, Nq4, hs4⟩ := hQ4
  have N4 := Fr.app N0 Nq4
  refine Comes.st st4 ?_
  show Comes p e below _ (T4.setTop (mkF m 14 #[.val (.ref xa), .val (.double mn), .second, .val (.int (0 : Int32))] [(.int (1 : Int32))]))
  have hc14_5 : ¬ ((1 : Int32) = (0 : Int32)) := by decide
  refine Comes.st (fun t k => XS.ifNo X4.here hx rfl (hb hby d26_14) rfl ((if0 _ _).trans (feq hc14_5).1) (XS.aloadN X4.here hx rfl (hb hby d26_17) rfl rfl (XS.iloadN X4.here hx rfl (hb hby d26_18) rfl k))) ?_
  show Comes p e below _ (T4.setTop (mkF m 19 #[.val (.ref xa), .val (.double mn), .second, .val (.int (0 : Int32))] [(.int (0 : Int32)), (.ref xa)]))
  obtain ⟨cl6, Ar6, q6, S6, Ng6, H6, Gf6⟩ := id G0
  have hin6 : ¬ ((0 : Int32) < 0 ∨ cl6.slots.size ≤ ((0 : Int32)).toNatClampNeg) := inb_of S6 ⟨by decide, by decide⟩
  refine Comes.st (fun t k => X4.daload hx (j := (0 : Int32)) (v := (.double (0 : UInt64))) (by rw [hs4]; exact Ar6.1) (State.isArrayOf_alike hZ.alike Ar6.2.1) Ar6.2.2 hin6 (Has.at H6 hin6 rfl) (g := (mkF m 19 #[.val (.ref xa), .val (.double mn), .second, .val (.int (0 : Int32))] [(.int (0 : Int32)), (.ref xa)])) rfl rfl (hb hby d26_19) _ (XS.dloadN X4.here hx rfl (hb hby d26_20) rfl k)) ?_
  show Comes p e below _ (T4.setTop (mkF m 21 #[.val (.ref xa), .val (.double mn), .second, .val (.int (0 : Int32))] [(.double mn), (.double (0 : UInt64))]))
  refine Comes.st (fun t k => XS.dcmpS X4.here hx rfl (hb hby d26_21) (v := cm) rfl G1 k) ?_
  show Comes p e below _ (T4.setTop (mkF m 22 #[.val (.ref xa), .val (.double mn), .second, .val (.int (0 : Int32))] [(.int cm)]))
  have hc22_7 : ¬ (cm < (0 : Int32)) := by assumption
  refine Comes.st (fun t k => XS.ifYes X4.here hx rfl (pc0 := 22) (pc' := 27) rfl (hb hby d26_22) rfl ((if0 _ _).trans (flt hc22_7).2.1) (by decide) (by decide) (XS.iinc X4.here hx rfl (hb hby d26_27) rfl (l' := #[.val (.ref xa), .val (.double mn), .second, .val (.int (1 : Int32))]) rfl (XS.goto X4.here hx rfl (pc0 := 30) (pc' := 2) rfl (hb hby d26_30) (by decide) (by decide) (XS.iloadN X4.here hx rfl (hb hby d26_2) rfl (XS.aloadN X4.here hx rfl (hb hby d26_3) rfl rfl k))))) ?_
  show Comes p e below _ (T4.setTop (mkF m 4 #[.val (.ref xa), .val (.double mn), .second, .val (.int (1 : Int32))] [(.ref xa), (.int (1 : Int32))]))
  obtain ⟨cl8, Ar8, -, S8, Ng8, -, -⟩ := id G0
  refine Comes.st (fun t k => X4.arraylength hx (by rw [hs4]; exact Ar8.1) (State.isArrayOf_alike hZ.alike Ar8.2.1) (g := (mkF m 4 #[.val (.ref xa), .val (.double mn), .second, .val (.int (1 : Int32))] [(.ref xa), (.int (1 : Int32))])) rfl rfl (hb hby d26_4) _ k) ?_
  rw [len_of S8 Ng8]
  show Comes p e below _ (T4.setTop (mkF m 5 #[.val (.ref xa), .val (.double mn), .second, .val (.int (1 : Int32))] [(.int (5 : Int32)), (.int (1 : Int32))]))
  have hc5_9 : (1 : Int32) < (5 : Int32) := by decide
  refine Comes.st (fun t k => XS.icmpNo X4.here hx rfl (hb hby d26_5) rfl (tlt hc5_9).2.1 (XS.aloadN X4.here hx rfl (hb hby d26_8) rfl rfl (XS.iloadN X4.here hx rfl (hb hby d26_9) rfl k))) ?_
  show Comes p e below _ (T4.setTop (mkF m 10 #[.val (.ref xa), .val (.double mn), .second, .val (.int (1 : Int32))] [(.int (1 : Int32)), (.ref xa)]))
  obtain ⟨cl10, Ar10, q10, S10, Ng10, H10, Gf10⟩ := id G0
  have hin10 : ¬ ((1 : Int32) < 0 ∨ cl10.slots.size ≤ ((1 : Int32)).toNatClampNeg) := inb_of S10 ⟨by decide, by decide⟩
  refine Comes.st (fun t k => X4.daload hx (j := (1 : Int32)) (v := (.double (0 : UInt64))) (by rw [hs4]; exact Ar10.1) (State.isArrayOf_alike hZ.alike Ar10.2.1) Ar10.2.2 hin10 (Has.at H10 hin10 rfl) (g := (mkF m 10 #[.val (.ref xa), .val (.double mn), .second, .val (.int (1 : Int32))] [(.int (1 : Int32)), (.ref xa)])) rfl rfl (hb hby d26_10) _ k) ?_
  show Comes p e below _ (T4.setTop (mkF m 11 #[.val (.ref xa), .val (.double mn), .second, .val (.int (1 : Int32))] [(.double (0 : UInt64))]))
  obtain ⟨_, _, ⟨T11, L11, k11, n11⟩, -, X11, ⟨Lc11, hQ11, l11, y11, z11⟩, st11⟩ := Jvm.LawKit.callS X4 hx (y := (⟨"java/lang/Double", "isFinite", "(D)Z"⟩ : MethodName)) hown (mvT hZ (W hw 178)) (mvT hZ (W hw 179)) (mvT hZ (W hw 180)) (mvT hZ (W hw 181)) (by decide) (backOf (W := 0) (rm28 l Z a0 hw []  h0 n0 (by omega)  ) hZ (W hw 181) (W hw 180) (by decide) (by decide)) (g := (mkF m 11 #[.val (.ref xa), .val (.double mn), .second, .val (.int (1 : Int32))] [(.double (0 : UInt64))])) rfl (by rw [hml]; rfl) (argsL := [(.double (0 : UInt64))]) (rest := []) (lenOf pd_15 rfl) rfl (by show 2 * 0 + _ ≤ _; exact Nat.le_of_eq rfl) (hb hby d26_11) (fun _ _ => ⟨rfl, hs4, (by decide : 0 + 0 ≤ _), (by decide : 0 + 0 ≤ _)⟩)
  dsimp only [Pt.U, Pt.locs, Pt.cells, Pt.slots] at X11 l11 y11 z11 st11 hQ11
  subst l11 y11 z11
  obtain ⟨rfl, Nq11, hs11⟩ := hQ11
  have N11 := Fr.app N4 Nq11
  refine Comes.st st11 ?_
  show Comes p e below _ (T11.setTop (mkF m 14 #[.val (.ref xa), .val (.double mn), .second, .val (.int (1 : Int32))] [(.int (1 : Int32))]))
  have hc14_12 : ¬ ((1 : Int32) = (0 : Int32)) := by decide
  refine Comes.st (fun t k => XS.ifNo X11.here hx rfl (hb hby d26_14) rfl ((if0 _ _).trans (feq hc14_12).1) (XS.aloadN X11.here hx rfl (hb hby d26_17) rfl rfl (XS.iloadN X11.here hx rfl (hb hby d26_18) rfl k))) ?_
  show Comes p e below _ (T11.setTop (mkF m 19 #[.val (.ref xa), .val (.double mn), .second, .val (.int (1 : Int32))] [(.int (1 : Int32)), (.ref xa)]))
  obtain ⟨cl13, Ar13, q13, S13, Ng13, H13, Gf13⟩ := id G0
  have hin13 : ¬ ((1 : Int32) < 0 ∨ cl13.slots.size ≤ ((1 : Int32)).toNatClampNeg) := inb_of S13 ⟨by decide, by decide⟩
  refine Comes.st (fun t k => X11.daload hx (j := (1 : Int32)) (v := (.double (0 : UInt64))) (by rw [hs11]; exact Ar13.1) (State.isArrayOf_alike hZ.alike Ar13.2.1) Ar13.2.2 hin13 (Has.at H13 hin13 rfl) (g := (mkF m 19 #[.val (.ref xa), .val (.double mn), .second, .val (.int (1 : Int32))] [(.int (1 : Int32)), (.ref xa)])) rfl rfl (hb hby d26_19) _ (XS.dloadN X11.here hx rfl (hb hby d26_20) rfl k)) ?_
  show Comes p e below _ (T11.setTop (mkF m 21 #[.val (.ref xa), .val (.double mn), .second, .val (.int (1 : Int32))] [(.double mn), (.double (0 : UInt64))]))
  refine Comes.st (fun t k => XS.dcmpS X11.here hx rfl (hb hby d26_21) (v := cm) rfl G1 k) ?_
  show Comes p e below _ (T11.setTop (mkF m 22 #[.val (.ref xa), .val (.double mn), .second, .val (.int (1 : Int32))] [(.int cm)]))
  have hc22_14 : ¬ (cm < (0 : Int32)) := by assumption
  refine Comes.st (fun t k => XS.ifYes X11.here hx rfl (pc0 := 22) (pc' := 27) rfl (hb hby d26_22) rfl ((if0 _ _).trans (flt hc22_14).2.1) (by decide) (by decide) (XS.iinc X11.here hx rfl (hb hby d26_27) rfl (l' := #[.val (.ref xa), .val (.double mn), .second, .val (.int (2 : Int32))]) rfl (XS.goto X11.here hx rfl (pc0 := 30) (pc' := 2) rfl (hb hby d26_30) (by decide) (by decide) (XS.iloadN X11.here hx rfl (hb hby d26_2) rfl (XS.aloadN X11.here hx rfl (hb hby d26_3) rfl rfl k))))) ?_
  show Comes p e below _ (T11.setTop (mkF m 4 #[.val (.ref xa), .val (.double mn), .second, .val (.int (2 : Int32))] [(.ref xa), (.int (2 : Int32))]))
  obtain ⟨cl15, Ar15, -, S15, Ng15, -, -⟩ := id G0
  refine Comes.st (fun t k => X11.arraylength hx (by rw [hs11]; exact Ar15.1) (State.isArrayOf_alike hZ.alike Ar15.2.1) (g := (mkF m 4 #[.val (.ref xa), .val (.double mn), .second, .val (.int (2 : Int32))] [(.ref xa), (.int (2 : Int32))])) rfl rfl (hb hby d26_4) _ k) ?_
  rw [len_of S15 Ng15]
  show Comes p e below _ (T11.setTop (mkF m 5 #[.val (.ref xa), .val (.double mn), .second, .val (.int (2 : Int32))] [(.int (5 : Int32)), (.int (2 : Int32))]))
  have hc5_16 : (2 : Int32) < (5 : Int32) := by decide
  refine Comes.st (fun t k => XS.icmpNo X11.here hx rfl (hb hby d26_5) rfl (tlt hc5_16).2.1 (XS.aloadN X11.here hx rfl (hb hby d26_8) rfl rfl (XS.iloadN X11.here hx rfl (hb hby d26_9) rfl k))) ?_
  show Comes p e below _ (T11.setTop (mkF m 10 #[.val (.ref xa), .val (.double mn), .second, .val (.int (2 : Int32))] [(.int (2 : Int32)), (.ref xa)]))
  obtain ⟨cl17, Ar17, q17, S17, Ng17, H17, Gf17⟩ := id G0
  have hin17 : ¬ ((2 : Int32) < 0 ∨ cl17.slots.size ≤ ((2 : Int32)).toNatClampNeg) := inb_of S17 ⟨by decide, by decide⟩
  refine Comes.st (fun t k => X11.daload hx (j := (2 : Int32)) (v := (.double (0 : UInt64))) (by rw [hs11]; exact Ar17.1) (State.isArrayOf_alike hZ.alike Ar17.2.1) Ar17.2.2 hin17 (Has.at H17 hin17 rfl) (g := (mkF m 10 #[.val (.ref xa), .val (.double mn), .second, .val (.int (2 : Int32))] [(.int (2 : Int32)), (.ref xa)])) rfl rfl (hb hby d26_10) _ k) ?_
  show Comes p e below _ (T11.setTop (mkF m 11 #[.val (.ref xa), .val (.double mn), .second, .val (.int (2 : Int32))] [(.double (0 : UInt64))]))
  obtain ⟨_, _, ⟨T18, L18, k18, n18⟩, -, X18, ⟨Lc18, hQ18, l18, y18, z18⟩, st18⟩ := Jvm.LawKit.callS X11 hx (y := (⟨"java/lang/Double", "isFinite", "(D)Z"⟩ : MethodName)) hown (mvT hZ (W hw 178)) (mvT hZ (W hw 179)) (mvT hZ (W hw 180)) (mvT hZ (W hw 181)) (by decide) (backOf (W := 0) (rm28 l Z a0 hw []  h0 n0 (by omega)  ) hZ (W hw 181) (W hw 180) (by decide) (by decide)) (g := (mkF m 11 #[.val (.ref xa), .val (.double mn), .second, .val (.int (2 : Int32))] [(.double (0 : UInt64))])) rfl (by rw [hml]; rfl) (argsL := [(.double (0 : UInt64))]) (rest := []) (lenOf pd_15 rfl) rfl (by show 2 * 0 + _ ≤ _; exact Nat.le_of_eq rfl) (hb hby d26_11) (fun _ _ => ⟨rfl, hs11, (by decide : 0 + 0 ≤ _), (by decide : 0 + 0 ≤ _)⟩)
  dsimp only [Pt.U, Pt.locs, Pt.cells, Pt.slots] at X18 l18 y18 z18 st18 hQ18
  subst l18 y18 z18
  obtain ⟨rfl, Nq18, hs18⟩ := hQ18
  have N18 := Fr.app N11 Nq18
  refine Comes.st st18 ?_
  show Comes p e below _ (T18.setTop (mkF m 14 #[.val (.ref xa), .val (.double mn), .second, .val (.int (2 : Int32))] [(.int (1 : Int32))]))
  have hc14_19 : ¬ ((1 : Int32) = (0 : Int32)) := by decide
  refine Comes.st (fun t k => XS.ifNo X18.here hx rfl (hb hby d26_14) rfl ((if0 _ _).trans (feq hc14_19).1) (XS.aloadN X18.here hx rfl (hb hby d26_17) rfl rfl (XS.iloadN X18.here hx rfl (hb hby d26_18) rfl k))) ?_
  show Comes p e below _ (T18.setTop (mkF m 19 #[.val (.ref xa), .val (.double mn), .second, .val (.int (2 : Int32))] [(.int (2 : Int32)), (.ref xa)]))
  obtain ⟨cl20, Ar20, q20, S20, Ng20, H20, Gf20⟩ := id G0
  have hin20 : ¬ ((2 : Int32) < 0 ∨ cl20.slots.size ≤ ((2 : Int32)).toNatClampNeg) := inb_of S20 ⟨by decide, by decide⟩
  refine Comes.st (fun t k => X18.daload hx (j := (2 : Int32)) (v := (.double (0 : UInt64))) (by rw [hs18]; exact Ar20.1) (State.isArrayOf_alike hZ.alike Ar20.2.1) Ar20.2.2 hin20 (Has.at H20 hin20 rfl) (g := (mkF m 19 #[.val (.ref xa), .val (.double mn), .second, .val (.int (2 : Int32))] [(.int (2 : Int32)), (.ref xa)])) rfl rfl (hb hby d26_19) _ (XS.dloadN X18.here hx rfl (hb hby d26_20) rfl k)) ?_
  show Comes p e below _ (T18.setTop (mkF m 21 #[.val (.ref xa), .val (.double mn), .second, .val (.int (2 : Int32))] [(.double mn), (.double (0 : UInt64))]))
  refine Comes.st (fun t k => XS.dcmpS X18.here hx rfl (hb hby d26_21) (v := cm) rfl G1 k) ?_
  show Comes p e below _ (T18.setTop (mkF m 22 #[.val (.ref xa), .val (.double mn), .second, .val (.int (2 : Int32))] [(.int cm)]))
  have hc22_21 : ¬ (cm < (0 : Int32)) := by assumption
  refine Comes.st (fun t k => XS.ifYes X18.here hx rfl (pc0 := 22) (pc' := 27) rfl (hb hby d26_22) rfl ((if0 _ _).trans (flt hc22_21).2.1) (by decide) (by decide) (XS.iinc X18.here hx rfl (hb hby d26_27) rfl (l' := #[.val (.ref xa), .val (.double mn), .second, .val (.int (3 : Int32))]) rfl (XS.goto X18.here hx rfl (pc0 := 30) (pc' := 2) rfl (hb hby d26_30) (by decide) (by decide) (XS.iloadN X18.here hx rfl (hb hby d26_2) rfl (XS.aloadN X18.here hx rfl (hb hby d26_3) rfl rfl k))))) ?_
  show Comes p e below _ (T18.setTop (mkF m 4 #[.val (.ref xa), .val (.double mn), .second, .val (.int (3 : Int32))] [(.ref xa), (.int (3 : Int32))]))
  obtain ⟨cl22, Ar22, -, S22, Ng22, -, -⟩ := id G0
  refine Comes.st (fun t k => X18.arraylength hx (by rw [hs18]; exact Ar22.1) (State.isArrayOf_alike hZ.alike Ar22.2.1) (g := (mkF m 4 #[.val (.ref xa), .val (.double mn), .second, .val (.int (3 : Int32))] [(.ref xa), (.int (3 : Int32))])) rfl rfl (hb hby d26_4) _ k) ?_
  rw [len_of S22 Ng22]
  show Comes p e below _ (T18.setTop (mkF m 5 #[.val (.ref xa), .val (.double mn), .second, .val (.int (3 : Int32))] [(.int (5 : Int32)), (.int (3 : Int32))]))
  have hc5_23 : (3 : Int32) < (5 : Int32) := by decide
  refine Comes.st (fun t k => XS.icmpNo X18.here hx rfl (hb hby d26_5) rfl (tlt hc5_23).2.1 (XS.aloadN X18.here hx rfl (hb hby d26_8) rfl rfl (XS.iloadN X18.here hx rfl (hb hby d26_9) rfl k))) ?_
  show Comes p e below _ (T18.setTop (mkF m 10 #[.val (.ref xa), .val (.double mn), .second, .val (.int (3 : Int32))] [(.int (3 : Int32)), (.ref xa)]))
  obtain ⟨cl24, Ar24, q24, S24, Ng24, H24, Gf24⟩ := id G0
  have hin24 : ¬ ((3 : Int32) < 0 ∨ cl24.slots.size ≤ ((3 : Int32)).toNatClampNeg) := inb_of S24 ⟨by decide, by decide⟩
  refine Comes.st (fun t k => X18.daload hx (j := (3 : Int32)) (v := (.double (0 : UInt64))) (by rw [hs18]; exact Ar24.1) (State.isArrayOf_alike hZ.alike Ar24.2.1) Ar24.2.2 hin24 (Has.at H24 hin24 rfl) (g := (mkF m 10 #[.val (.ref xa), .val (.double mn), .second, .val (.int (3 : Int32))] [(.int (3 : Int32)), (.ref xa)])) rfl rfl (hb hby d26_10) _ k) ?_
  show Comes p e below _ (T18.setTop (mkF m 11 #[.val (.ref xa), .val (.double mn), .second, .val (.int (3 : Int32))] [(.double (0 : UInt64))]))
  obtain ⟨_, _, ⟨T25, L25, k25, n25⟩, -, X25, ⟨Lc25, hQ25, l25, y25, z25⟩, st25⟩ := Jvm.LawKit.callS X18 hx (y := (⟨"java/lang/Double", "isFinite", "(D)Z"⟩ : MethodName)) hown (mvT hZ (W hw 178)) (mvT hZ (W hw 179)) (mvT hZ (W hw 180)) (mvT hZ (W hw 181)) (by decide) (backOf (W := 0) (rm28 l Z a0 hw []  h0 n0 (by omega)  ) hZ (W hw 181) (W hw 180) (by decide) (by decide)) (g := (mkF m 11 #[.val (.ref xa), .val (.double mn), .second, .val (.int (3 : Int32))] [(.double (0 : UInt64))])) rfl (by rw [hml]; rfl) (argsL := [(.double (0 : UInt64))]) (rest := []) (lenOf pd_15 rfl) rfl (by show 2 * 0 + _ ≤ _; exact Nat.le_of_eq rfl) (hb hby d26_11) (fun _ _ => ⟨rfl, hs18, (by decide : 0 + 0 ≤ _), (by decide : 0 + 0 ≤ _)⟩)
  dsimp only [Pt.U, Pt.locs, Pt.cells, Pt.slots] at X25 l25 y25 z25 st25 hQ25
  subst l25 y25 z25
  obtain ⟨rfl, Nq25, hs25⟩ := hQ25
  have N25 := Fr.app N18 Nq25
  refine Comes.st st25 ?_
  show Comes p e below _ (T25.setTop (mkF m 14 #[.val (.ref xa), .val (.double mn), .second, .val (.int (3 : Int32))] [(.int (1 : Int32))]))
  have hc14_26 : ¬ ((1 : Int32) = (0 : Int32)) := by decide
  refine Comes.st (fun t k => XS.ifNo X25.here hx rfl (hb hby d26_14) rfl ((if0 _ _).trans (feq hc14_26).1) (XS.aloadN X25.here hx rfl (hb hby d26_17) rfl rfl (XS.iloadN X25.here hx rfl (hb hby d26_18) rfl k))) ?_
  show Comes p e below _ (T25.setTop (mkF m 19 #[.val (.ref xa), .val (.double mn), .second, .val (.int (3 : Int32))] [(.int (3 : Int32)), (.ref xa)]))
  obtain ⟨cl27, Ar27, q27, S27, Ng27, H27, Gf27⟩ := id G0
  have hin27 : ¬ ((3 : Int32) < 0 ∨ cl27.slots.size ≤ ((3 : Int32)).toNatClampNeg) := inb_of S27 ⟨by decide, by decide⟩
  refine Comes.st (fun t k => X25.daload hx (j := (3 : Int32)) (v := (.double (0 : UInt64))) (by rw [hs25]; exact Ar27.1) (State.isArrayOf_alike hZ.alike Ar27.2.1) Ar27.2.2 hin27 (Has.at H27 hin27 rfl) (g := (mkF m 19 #[.val (.ref xa), .val (.double mn), .second, .val (.int (3 : Int32))] [(.int (3 : Int32)), (.ref xa)])) rfl rfl (hb hby d26_19) _ (XS.dloadN X25.here hx rfl (hb hby d26_20) rfl k)) ?_
  show Comes p e below _ (T25.setTop (mkF m 21 #[.val (.ref xa), .val (.double mn), .second, .val (.int (3 : Int32))] [(.double mn), (.double (0 : UInt64))]))
  refine Comes.st (fun t k => XS.dcmpS X25.here hx rfl (hb hby d26_21) (v := cm) rfl G1 k) ?_
  show Comes p e below _ (T25.setTop (mkF m 22 #[.val (.ref xa), .val (.double mn), .second, .val (.int (3 : Int32))] [(.int cm)]))
  have hc22_28 : ¬ (cm < (0 : Int32)) := by assumption
  refine Comes.st (fun t k => XS.ifYes X25.here hx rfl (pc0 := 22) (pc' := 27) rfl (hb hby d26_22) rfl ((if0 _ _).trans (flt hc22_28).2.1) (by decide) (by decide) (XS.iinc X25.here hx rfl (hb hby d26_27) rfl (l' := #[.val (.ref xa), .val (.double mn), .second, .val (.int (4 : Int32))]) rfl (XS.goto X25.here hx rfl (pc0 := 30) (pc' := 2) rfl (hb hby d26_30) (by decide) (by decide) (XS.iloadN X25.here hx rfl (hb hby d26_2) rfl (XS.aloadN X25.here hx rfl (hb hby d26_3) rfl rfl k))))) ?_
  show Comes p e below _ (T25.setTop (mkF m 4 #[.val (.ref xa), .val (.double mn), .second, .val (.int (4 : Int32))] [(.ref xa), (.int (4 : Int32))]))
  obtain ⟨cl29, Ar29, -, S29, Ng29, -, -⟩ := id G0
  refine Comes.st (fun t k => X25.arraylength hx (by rw [hs25]; exact Ar29.1) (State.isArrayOf_alike hZ.alike Ar29.2.1) (g := (mkF m 4 #[.val (.ref xa), .val (.double mn), .second, .val (.int (4 : Int32))] [(.ref xa), (.int (4 : Int32))])) rfl rfl (hb hby d26_4) _ k) ?_
  rw [len_of S29 Ng29]
  show Comes p e below _ (T25.setTop (mkF m 5 #[.val (.ref xa), .val (.double mn), .second, .val (.int (4 : Int32))] [(.int (5 : Int32)), (.int (4 : Int32))]))
  have hc5_30 : (4 : Int32) < (5 : Int32) := by decide
  refine Comes.st (fun t k => XS.icmpNo X25.here hx rfl (hb hby d26_5) rfl (tlt hc5_30).2.1 (XS.aloadN X25.here hx rfl (hb hby d26_8) rfl rfl (XS.iloadN X25.here hx rfl (hb hby d26_9) rfl k))) ?_
  show Comes p e below _ (T25.setTop (mkF m 10 #[.val (.ref xa), .val (.double mn), .second, .val (.int (4 : Int32))] [(.int (4 : Int32)), (.ref xa)]))
  obtain ⟨cl31, Ar31, q31, S31, Ng31, H31, Gf31⟩ := id G0
  have hin31 : ¬ ((4 : Int32) < 0 ∨ cl31.slots.size ≤ ((4 : Int32)).toNatClampNeg) := inb_of S31 ⟨by decide, by decide⟩
  refine Comes.st (fun t k => X25.daload hx (j := (4 : Int32)) (v := (.double (0 : UInt64))) (by rw [hs25]; exact Ar31.1) (State.isArrayOf_alike hZ.alike Ar31.2.1) Ar31.2.2 hin31 (Has.at H31 hin31 rfl) (g := (mkF m 10 #[.val (.ref xa), .val (.double mn), .second, .val (.int (4 : Int32))] [(.int (4 : Int32)), (.ref xa)])) rfl rfl (hb hby d26_10) _ k) ?_
  show Comes p e below _ (T25.setTop (mkF m 11 #[.val (.ref xa), .val (.double mn), .second, .val (.int (4 : Int32))] [(.double (0 : UInt64))]))
  obtain ⟨_, _, ⟨T32, L32, k32, n32⟩, -, X32, ⟨Lc32, hQ32, l32, y32, z32⟩, st32⟩ := Jvm.LawKit.callS X25 hx (y := (⟨"java/lang/Double", "isFinite", "(D)Z"⟩ : MethodName)) hown (mvT hZ (W hw 178)) (mvT hZ (W hw 179)) (mvT hZ (W hw 180)) (mvT hZ (W hw 181)) (by decide) (backOf (W := 0) (rm28 l Z a0 hw []  h0 n0 (by omega)  ) hZ (W hw 181) (W hw 180) (by decide) (by decide)) (g := (mkF m 11 #[.val (.ref xa), .val (.double mn), .second, .val (.int (4 : Int32))] [(.double (0 : UInt64))])) rfl (by rw [hml]; rfl) (argsL := [(.double (0 : UInt64))]) (rest := []) (lenOf pd_15 rfl) rfl (by show 2 * 0 + _ ≤ _; exact Nat.le_of_eq rfl) (hb hby d26_11) (fun _ _ => ⟨rfl, hs25, (by decide : 0 + 0 ≤ _), (by decide : 0 + 0 ≤ _)⟩)
  dsimp only [Pt.U, Pt.locs, Pt.cells, Pt.slots] at X32 l32 y32 z32 st32 hQ32
  subst l32 y32 z32
  obtain ⟨rfl, Nq32, hs32⟩ := hQ32
  have N32 := Fr.app N25 Nq32
  refine Comes.st st32 ?_
  show Comes p e below _ (T32.setTop (mkF m 14 #[.val (.ref xa), .val (.double mn), .second, .val (.int (4 : Int32))] [(.int (1 : Int32))]))
  have hc14_33 : ¬ ((1 : Int32) = (0 : Int32)) := by decide
  refine Comes.st (fun t k => XS.ifNo X32.here hx rfl (hb hby d26_14) rfl ((if0 _ _).trans (feq hc14_33).1) (XS.aloadN X32.here hx rfl (hb hby d26_17) rfl rfl (XS.iloadN X32.here hx rfl (hb hby d26_18) rfl k))) ?_
  show Comes p e below _ (T32.setTop (mkF m 19 #[.val (.ref xa), .val (.double mn), .second, .val (.int (4 : Int32))] [(.int (4 : Int32)), (.ref xa)]))
  obtain ⟨cl34, Ar34, q34, S34, Ng34, H34, Gf34⟩ := id G0
  have hin34 : ¬ ((4 : Int32) < 0 ∨ cl34.slots.size ≤ ((4 : Int32)).toNatClampNeg) := inb_of S34 ⟨by decide, by decide⟩
  refine Comes.st (fun t k => X32.daload hx (j := (4 : Int32)) (v := (.double (0 : UInt64))) (by rw [hs32]; exact Ar34.1) (State.isArrayOf_alike hZ.alike Ar34.2.1) Ar34.2.2 hin34 (Has.at H34 hin34 rfl) (g := (mkF m 19 #[.val (.ref xa), .val (.double mn), .second, .val (.int (4 : Int32))] [(.int (4 : Int32)), (.ref xa)])) rfl rfl (hb hby d26_19) _ (XS.dloadN X32.here hx rfl (hb hby d26_20) rfl k)) ?_
  show Comes p e below _ (T32.setTop (mkF m 21 #[.val (.ref xa), .val (.double mn), .second, .val (.int (4 : Int32))] [(.double mn), (.double (0 : UInt64))]))
  refine Comes.st (fun t k => XS.dcmpS X32.here hx rfl (hb hby d26_21) (v := cm) rfl G1 k) ?_
  show Comes p e below _ (T32.setTop (mkF m 22 #[.val (.ref xa), .val (.double mn), .second, .val (.int (4 : Int32))] [(.int cm)]))
  have hc22_35 : ¬ (cm < (0 : Int32)) := by assumption
  refine Comes.st (fun t k => XS.ifYes X32.here hx rfl (pc0 := 22) (pc' := 27) rfl (hb hby d26_22) rfl ((if0 _ _).trans (flt hc22_35).2.1) (by decide) (by decide) (XS.iinc X32.here hx rfl (hb hby d26_27) rfl (l' := #[.val (.ref xa), .val (.double mn), .second, .val (.int (5 : Int32))]) rfl (XS.goto X32.here hx rfl (pc0 := 30) (pc' := 2) rfl (hb hby d26_30) (by decide) (by decide) (XS.iloadN X32.here hx rfl (hb hby d26_2) rfl (XS.aloadN X32.here hx rfl (hb hby d26_3) rfl rfl k))))) ?_
  show Comes p e below _ (T32.setTop (mkF m 4 #[.val (.ref xa), .val (.double mn), .second, .val (.int (5 : Int32))] [(.ref xa), (.int (5 : Int32))]))
  obtain ⟨cl36, Ar36, -, S36, Ng36, -, -⟩ := id G0
  refine Comes.st (fun t k => X32.arraylength hx (by rw [hs32]; exact Ar36.1) (State.isArrayOf_alike hZ.alike Ar36.2.1) (g := (mkF m 4 #[.val (.ref xa), .val (.double mn), .second, .val (.int (5 : Int32))] [(.ref xa), (.int (5 : Int32))])) rfl rfl (hb hby d26_4) _ k) ?_
  rw [len_of S36 Ng36]
  show Comes p e below _ (T32.setTop (mkF m 5 #[.val (.ref xa), .val (.double mn), .second, .val (.int (5 : Int32))] [(.int (5 : Int32)), (.int (5 : Int32))]))
  have hc5_37 : ¬ ((5 : Int32) < (5 : Int32)) := by decide
  refine Comes.st (fun t k => XS.icmpYes X32.here hx rfl (pc0 := 5) (pc' := 33) rfl (hb hby d26_5) rfl (flt hc5_37).2.1 (by decide) (by decide) (XS.iconst X32.here hx rfl (hb hby d26_33) k)) ?_
  show Comes p e below _ (T32.setTop (mkF m 34 #[.val (.ref xa), .val (.double mn), .second, .val (.int (5 : Int32))] [(.int (-1 : Int32))]))
  exact Comes.retV X32 hx Bd.returns rfl (Or.inl ⟨rfl, Or.inl rfl, _, rfl⟩) hlk (hb hby d26_34) hs32 ⟨rfl, N32, rfl⟩ (by decide) (by decide)
def Q_fb6 (Z : State) (xa : Nat) (mn : UInt64) (ka : ClassId) (cm : Int32) (h0 : Heap) (n0 : Nat) (v_ : Option Value) (h : Heap) (L_ : List Loc) : Prop := (v_ = some (.int (-1 : Int32))) ∧ (Fr n0 L_) ∧ (h = h0)
theorem fb6 (l : Launch) (Z : State) (a0 : Array Value) (hw : ∀ d ∈ tables_1, d.before a0 Z = true) (ws : List Jvm.Cond) (xa : Nat) (mn : UInt64) (ka : ClassId) (cm : Int32) (h0 : Heap) (n0 : Nat) (Z0 : n0 ≤ h0.size) (G0 : Arv Z h0 xa ka .double (6 : Int32) [(.double (0 : UInt64)), (.double (0 : UInt64)), (.double (0 : UInt64)), (.double (0 : UInt64)), (.double (0 : UInt64)), (.double (0 : UInt64))] (.double (0 : UInt64))) (G1 : cmpValue (FP.dcmp (0 : UInt64) mn) .g = cm) (G2 : ¬ (cm < (0 : Int32))) :
    MetFree l (⟨"com/example/ordr/ordr/model/Layout", "firstBelow", "([DD)I"⟩ : MethodName) (head1 (Jvm.Cond.code (⟨"com/example/ordr/ordr/model/Layout", "firstBelow", "([DD)I"⟩ : MethodName) prog_86_method_18_code 4 (some .int) :: ws) (Rm 2 0 0 26)) (fun a_ U_ => a_ = #[(.ref xa), (.double mn)] ∧ Z.Warmed39 U_.vm ∧ U_.heap = h0) (fun _ _ _ _ _ => True) (fun _ U_ o_ V_ => ∃ v_ L_, o_ = .returned v_ ∧ Q_fb6 Z xa mn ka cm h0 n0 v_ V_.heap L_ ∧ FrameEnd U_ o_ V_ L_ (Rm 2 0 0 26).cells (Rm 2 0 0 26).slots) := by
  refine MetFree.of_bodySF (plainFor_of_name pn_26) hisR ?_
  intro p e s m args below meth c s₁ Bd hml0 hP hK
  obtain ⟨rfl, hZ, hh⟩ := hP
  have hx := Bd.exec
  have hby := Bd.bytes
  have hml : c.maxLocals = 4 := hml0
  have hown : s.vm.findClass "com/example/ordr/ordr/model/Layout" = some m.cls := findClass_of_methodNamed Bd.named
  have hnm := (name_of_methodNamed Bd.named Bd.method).1
  have hlk : meth.locks = false := Bd.notSynchronized
  have X0 : Stand p l e (Rm 2 0 0 26) s m #[(.ref xa), (.double mn)] below meth c s₁ [] 0 0 := Stand.of_body Bd
  have e0 : s₁.heap = h0 := by rw [← hh, Bd.state]; rfl
  have N0 := Fr.nil n0
  refine Comes.out (Q := Q_fb6 Z xa mn ka cm h0 n0) (kc := (Rm 2 0 0 26).cells) (ks := (Rm 2 0 0 26).slots) ?_
  refine Comes.cast (ef_fb6 m xa mn) ?_
  have lt_xa : xa < h0.size := G0.lt
  show Comes p e below _ (s₁.setTop (mkF m 0 #[.val (.ref xa), .val (.double mn), .second, .unset] []))
  refine Comes.st (fun t k => XS.iconst X0.here hx rfl (hb hby d26_0) (XS.istoreN X0.here hx rfl (hb hby d26_1) rfl (l' := #[.val (.ref xa), .val (.double mn), .second, .val (.int (0 : Int32))]) rfl (XS.iloadN X0.here hx rfl (hb hby d26_2) rfl (XS.aloadN X0.here hx rfl (hb hby d26_3) rfl rfl k)))) ?_
  show Comes p e below _ (s₁.setTop (mkF m 4 #[.val (.ref xa), .val (.double mn), .second, .val (.int (0 : Int32))] [(.ref xa), (.int (0 : Int32))]))
  obtain ⟨cl1, Ar1, -, S1, Ng1, -, -⟩ := id G0
  refine Comes.st (fun t k => X0.arraylength hx (by rw [e0]; exact Ar1.1) (State.isArrayOf_alike hZ.alike Ar1.2.1) (g := (mkF m 4 #[.val (.ref xa), .val (.double mn), .second, .val (.int (0 : Int32))] [(.ref xa), (.int (0 : Int32))])) rfl rfl (hb hby d26_4) _ k) ?_
  rw [len_of S1 Ng1]
  show Comes p e below _ (s₁.setTop (mkF m 5 #[.val (.ref xa), .val (.double mn), .second, .val (.int (0 : Int32))] [(.int (6 : Int32)), (.int (0 : Int32))]))
  have hc5_2 : (0 : Int32) < (6 : Int32) := by decide
  refine Comes.st (fun t k => XS.icmpNo X0.here hx rfl (hb hby d26_5) rfl (tlt hc5_2).2.1 (XS.aloadN X0.here hx rfl (hb hby d26_8) rfl rfl (XS.iloadN X0.here hx rfl (hb hby d26_9) rfl k))) ?_
  show Comes p e below _ (s₁.setTop (mkF m 10 #[.val (.ref xa), .val (.double mn), .second, .val (.int (0 : Int32))] [(.int (0 : Int32)), (.ref xa)]))
  obtain ⟨cl3, Ar3, q3, S3, Ng3, H3, Gf3⟩ := id G0
  have hin3 : ¬ ((0 : Int32) < 0 ∨ cl3.slots.size ≤ ((0 : Int32)).toNatClampNeg) := inb_of S3 ⟨by decide, by decide⟩
  refine Comes.st (fun t k => X0.daload hx (j := (0 : Int32)) (v := (.double (0 : UInt64))) (by rw [e0]; exact Ar3.1) (State.isArrayOf_alike hZ.alike Ar3.2.1) Ar3.2.2 hin3 (Has.at H3 hin3 rfl) (g := (mkF m 10 #[.val (.ref xa), .val (.double mn), .second, .val (.int (0 : Int32))] [(.int (0 : Int32)), (.ref xa)])) rfl rfl (hb hby d26_10) _ k) ?_
  show Comes p e below _ (s₁.setTop (mkF m 11 #[.val (.ref xa), .val (.double mn), .second, .val (.int (0 : Int32))] [(.double (0 : UInt64))]))
  obtain ⟨_, _, ⟨T4, L4, k4, n4⟩, -, X4, ⟨Lc4, hQ4, l4, y4, z4⟩, st4⟩ := Jvm.LawKit.callS X0 hx (y := (⟨"java/lang/Double", "isFinite", "(D)Z"⟩ : MethodName)) hown (mvT hZ (W hw 178)) (mvT hZ (W hw 179)) (mvT hZ (W hw 180)) (mvT hZ (W hw 181)) (by decide) (backOf (W := 0) (rm28 l Z a0 hw []  h0 n0 (by omega)  ) hZ (W hw 181) (W hw 180) (by decide) (by decide)) (g := (mkF m 11 #[.val (.ref xa), .val (.double mn), .second, .val (.int (0 : Int32))] [(.double (0 : UInt64))])) rfl (by rw [hml]; rfl) (argsL := [(.double (0 : UInt64))]) (rest := []) (lenOf pd_15 rfl) rfl (by show 2 * 0 + _ ≤ _; exact Nat.le_of_eq rfl) (hb hby d26_11) (fun _ _ => ⟨rfl, e0, (by decide : 0 + 0 ≤ _), (by decide : 0 + 0 ≤ _)⟩)
  dsimp only [Pt.U, Pt.locs, Pt.cells, Pt.slots] at X4 l4 y4 z4 st4 hQ4
  subst l4 y4 z4
  obtain ⟨rfl, Nq4, hs4⟩ := hQ4
  have N4 := Fr.app N0 Nq4
  refine Comes.st st4 ?_
  show Comes p e below _ (T4.setTop (mkF m 14 #[.val (.ref xa), .val (.double mn), .second, .val (.int (0 : Int32))] [(.int (1 : Int32))]))
  have hc14_5 : ¬ ((1 : Int32) = (0 : Int32)) := by decide
  refine Comes.st (fun t k => XS.ifNo X4.here hx rfl (hb hby d26_14) rfl ((if0 _ _).trans (feq hc14_5).1) (XS.aloadN X4.here hx rfl (hb hby d26_17) rfl rfl (XS.iloadN X4.here hx rfl (hb hby d26_18) rfl k))) ?_
  show Comes p e below _ (T4.setTop (mkF m 19 #[.val (.ref xa), .val (.double mn), .second, .val (.int (0 : Int32))] [(.int (0 : Int32)), (.ref xa)]))
  obtain ⟨cl6, Ar6, q6, S6, Ng6, H6, Gf6⟩ := id G0
  have hin6 : ¬ ((0 : Int32) < 0 ∨ cl6.slots.size ≤ ((0 : Int32)).toNatClampNeg) := inb_of S6 ⟨by decide, by decide⟩
  refine Comes.st (fun t k => X4.daload hx (j := (0 : Int32)) (v := (.double (0 : UInt64))) (by rw [hs4]; exact Ar6.1) (State.isArrayOf_alike hZ.alike Ar6.2.1) Ar6.2.2 hin6 (Has.at H6 hin6 rfl) (g := (mkF m 19 #[.val (.ref xa), .val (.double mn), .second, .val (.int (0 : Int32))] [(.int (0 : Int32)), (.ref xa)])) rfl rfl (hb hby d26_19) _ (XS.dloadN X4.here hx rfl (hb hby d26_20) rfl k)) ?_
  show Comes p e below _ (T4.setTop (mkF m 21 #[.val (.ref xa), .val (.double mn), .second, .val (.int (0 : Int32))] [(.double mn), (.double (0 : UInt64))]))
  refine Comes.st (fun t k => XS.dcmpS X4.here hx rfl (hb hby d26_21) (v := cm) rfl G1 k) ?_
  show Comes p e below _ (T4.setTop (mkF m 22 #[.val (.ref xa), .val (.double mn), .second, .val (.int (0 : Int32))] [(.int cm)]))
  have hc22_7 : ¬ (cm < (0 : Int32)) := by assumption
  refine Comes.st (fun t k => XS.ifYes X4.here hx rfl (pc0 := 22) (pc' := 27) rfl (hb hby d26_22) rfl ((if0 _ _).trans (flt hc22_7).2.1) (by decide) (by decide) (XS.iinc X4.here hx rfl (hb hby d26_27) rfl (l' := #[.val (.ref xa), .val (.double mn), .second, .val (.int (1 : Int32))]) rfl (XS.goto X4.here hx rfl (pc0 := 30) (pc' := 2) rfl (hb hby d26_30) (by decide) (by decide) (XS.iloadN X4.here hx rfl (hb hby d26_2) rfl (XS.aloadN X4.here hx rfl (hb hby d26_3) rfl rfl k))))) ?_
  show Comes p e below _ (T4.setTop (mkF m 4 #[.val (.ref xa), .val (.double mn), .second, .val (.int (1 : Int32))] [(.ref xa), (.int (1 : Int32))]))
  obtain ⟨cl8, Ar8, -, S8, Ng8, -, -⟩ := id G0
  refine Comes.st (fun t k => X4.arraylength hx (by rw [hs4]; exact Ar8.1) (State.isArrayOf_alike hZ.alike Ar8.2.1) (g := (mkF m 4 #[.val (.ref xa), .val (.double mn), .second, .val (.int (1 : Int32))] [(.ref xa), (.int (1 : Int32))])) rfl rfl (hb hby d26_4) _ k) ?_
  rw [len_of S8 Ng8]
  show Comes p e below _ (T4.setTop (mkF m 5 #[.val (.ref xa), .val (.double mn), .second, .val (.int (1 : Int32))] [(.int (6 : Int32)), (.int (1 : Int32))]))
  have hc5_9 : (1 : Int32) < (6 : Int32) := by decide
  refine Comes.st (fun t k => XS.icmpNo X4.here hx rfl (hb hby d26_5) rfl (tlt hc5_9).2.1 (XS.aloadN X4.here hx rfl (hb hby d26_8) rfl rfl (XS.iloadN X4.here hx rfl (hb hby d26_9) rfl k))) ?_
  show Comes p e below _ (T4.setTop (mkF m 10 #[.val (.ref xa), .val (.double mn), .second, .val (.int (1 : Int32))] [(.int (1 : Int32)), (.ref xa)]))
  obtain ⟨cl10, Ar10, q10, S10, Ng10, H10, Gf10⟩ := id G0
  have hin10 : ¬ ((1 : Int32) < 0 ∨ cl10.slots.size ≤ ((1 : Int32)).toNatClampNeg) := inb_of S10 ⟨by decide, by decide⟩
  refine Comes.st (fun t k => X4.daload hx (j := (1 : Int32)) (v := (.double (0 : UInt64))) (by rw [hs4]; exact Ar10.1) (State.isArrayOf_alike hZ.alike Ar10.2.1) Ar10.2.2 hin10 (Has.at H10 hin10 rfl) (g := (mkF m 10 #[.val (.ref xa), .val (.double mn), .second, .val (.int (1 : Int32))] [(.int (1 : Int32)), (.ref xa)])) rfl rfl (hb hby d26_10) _ k) ?_
  show Comes p e below _ (T4.setTop (mkF m 11 #[.val (.ref xa), .val (.double mn), .second, .val (.int (1 : Int32))] [(.double (0 : UInt64))]))
  obtain ⟨_, _, ⟨T11, L11, k11, n11⟩, -, X11, ⟨Lc11, hQ11, l11, y11, z11⟩, st11⟩ := Jvm.LawKit.callS X4 hx (y := (⟨"java/lang/Double", "isFinite", "(D)Z"⟩ : MethodName)) hown (mvT hZ (W hw 178)) (mvT hZ (W hw 179)) (mvT hZ (W hw 180)) (mvT hZ (W hw 181)) (by decide) (backOf (W := 0) (rm28 l Z a0 hw []  h0 n0 (by omega)  ) hZ (W hw 181) (W hw 180) (by decide) (by decide)) (g := (mkF m 11 #[.val (.ref xa), .val (.double mn), .second, .val (.int (1 : Int32))] [(.double (0 : UInt64))])) rfl (by rw [hml]; rfl) (argsL := [(.double (0 : UInt64))]) (rest := []) (lenOf pd_15 rfl) rfl (by show 2 * 0 + _ ≤ _; exact Nat.le_of_eq rfl) (hb hby d26_11) (fun _ _ => ⟨rfl, hs4, (by decide : 0 + 0 ≤ _), (by decide : 0 + 0 ≤ _)⟩)
  dsimp only [Pt.U, Pt.locs, Pt.cells, Pt.slots] at X11 l11 y11 z11 st11 hQ11
  subst l11 y11 z11
  obtain ⟨rfl, Nq11, hs11⟩ := hQ11
  have N11 := Fr.app N4 Nq11
  refine Comes.st st11 ?_
  show Comes p e below _ (T11.setTop (mkF m 14 #[.val (.ref xa), .val (.double mn), .second, .val (.int (1 : Int32))] [(.int (1 : Int32))]))
  have hc14_12 : ¬ ((1 : Int32) = (0 : Int32)) := by decide
  refine Comes.st (fun t k => XS.ifNo X11.here hx rfl (hb hby d26_14) rfl ((if0 _ _).trans (feq hc14_12).1) (XS.aloadN X11.here hx rfl (hb hby d26_17) rfl rfl (XS.iloadN X11.here hx rfl (hb hby d26_18) rfl k))) ?_
  show Comes p e below _ (T11.setTop (mkF m 19 #[.val (.ref xa), .val (.double mn), .second, .val (.int (1 : Int32))] [(.int (1 : Int32)), (.ref xa)]))
  obtain ⟨cl13, Ar13, q13, S13, Ng13, H13, Gf13⟩ := id G0
  have hin13 : ¬ ((1 : Int32) < 0 ∨ cl13.slots.size ≤ ((1 : Int32)).toNatClampNeg) := inb_of S13 ⟨by decide, by decide⟩
  refine Comes.st (fun t k => X11.daload hx (j := (1 : Int32)) (v := (.double (0 : UInt64))) (by rw [hs11]; exact Ar13.1) (State.isArrayOf_alike hZ.alike Ar13.2.1) Ar13.2.2 hin13 (Has.at H13 hin13 rfl) (g := (mkF m 19 #[.val (.ref xa), .val (.double mn), .second, .val (.int (1 : Int32))] [(.int (1 : Int32)), (.ref xa)])) rfl rfl (hb hby d26_19) _ (XS.dloadN X11.here hx rfl (hb hby d26_20) rfl k)) ?_
  show Comes p e below _ (T11.setTop (mkF m 21 #[.val (.ref xa), .val (.double mn), .second, .val (.int (1 : Int32))] [(.double mn), (.double (0 : UInt64))]))
  refine Comes.st (fun t k => XS.dcmpS X11.here hx rfl (hb hby d26_21) (v := cm) rfl G1 k) ?_
  show Comes p e below _ (T11.setTop (mkF m 22 #[.val (.ref xa), .val (.double mn), .second, .val (.int (1 : Int32))] [(.int cm)]))
  have hc22_14 : ¬ (cm < (0 : Int32)) := by assumption
  refine Comes.st (fun t k => XS.ifYes X11.here hx rfl (pc0 := 22) (pc' := 27) rfl (hb hby d26_22) rfl ((if0 _ _).trans (flt hc22_14).2.1) (by decide) (by decide) (XS.iinc X11.here hx rfl (hb hby d26_27) rfl (l' := #[.val (.ref xa), .val (.double mn), .second, .val (.int (2 : Int32))]) rfl (XS.goto X11.here hx rfl (pc0 := 30) (pc' := 2) rfl (hb hby d26_30) (by decide) (by decide) (XS.iloadN X11.here hx rfl (hb hby d26_2) rfl (XS.aloadN X11.here hx rfl (hb hby d26_3) rfl rfl k))))) ?_
  show Comes p e below _ (T11.setTop (mkF m 4 #[.val (.ref xa), .val (.double mn), .second, .val (.int (2 : Int32))] [(.ref xa), (.int (2 : Int32))]))
  obtain ⟨cl15, Ar15, -, S15, Ng15, -, -⟩ := id G0
  refine Comes.st (fun t k => X11.arraylength hx (by rw [hs11]; exact Ar15.1) (State.isArrayOf_alike hZ.alike Ar15.2.1) (g := (mkF m 4 #[.val (.ref xa), .val (.double mn), .second, .val (.int (2 : Int32))] [(.ref xa), (.int (2 : Int32))])) rfl rfl (hb hby d26_4) _ k) ?_
  rw [len_of S15 Ng15]
  show Comes p e below _ (T11.setTop (mkF m 5 #[.val (.ref xa), .val (.double mn), .second, .val (.int (2 : Int32))] [(.int (6 : Int32)), (.int (2 : Int32))]))
  have hc5_16 : (2 : Int32) < (6 : Int32) := by decide
  refine Comes.st (fun t k => XS.icmpNo X11.here hx rfl (hb hby d26_5) rfl (tlt hc5_16).2.1 (XS.aloadN X11.here hx rfl (hb hby d26_8) rfl rfl (XS.iloadN X11.here hx rfl (hb hby d26_9) rfl k))) ?_
  show Comes p e below _ (T11.setTop (mkF m 10 #[.val (.ref xa), .val (.double mn), .second, .val (.int (2 : Int32))] [(.int (2 : Int32)), (.ref xa)]))
  obtain ⟨cl17, Ar17, q17, S17, Ng17, H17, Gf17⟩ := id G0
  have hin17 : ¬ ((2 : Int32) < 0 ∨ cl17.slots.size ≤ ((2 : Int32)).toNatClampNeg) := inb_of S17 ⟨by decide, by decide⟩
  refine Comes.st (fun t k => X11.daload hx (j := (2 : Int32)) (v := (.double (0 : UInt64))) (by rw [hs11]; exact Ar17.1) (State.isArrayOf_alike hZ.alike Ar17.2.1) Ar17.2.2 hin17 (Has.at H17 hin17 rfl) (g := (mkF m 10 #[.val (.ref xa), .val (.double mn), .second, .val (.int (2 : Int32))] [(.int (2 : Int32)), (.ref xa)])) rfl rfl (hb hby d26_10) _ k) ?_
  show Comes p e below _ (T11.setTop (mkF m 11 #[.val (.ref xa), .val (.double mn), .second, .val (.int (2 : Int32))] [(.double (0 : UInt64))]))
  obtain ⟨_, _, ⟨T18, L18, k18, n18⟩, -, X18, ⟨Lc18, hQ18, l18, y18, z18⟩, st18⟩ := Jvm.LawKit.callS X11 hx (y := (⟨"java/lang/Double", "isFinite", "(D)Z"⟩ : MethodName)) hown (mvT hZ (W hw 178)) (mvT hZ (W hw 179)) (mvT hZ (W hw 180)) (mvT hZ (W hw 181)) (by decide) (backOf (W := 0) (rm28 l Z a0 hw []  h0 n0 (by omega)  ) hZ (W hw 181) (W hw 180) (by decide) (by decide)) (g := (mkF m 11 #[.val (.ref xa), .val (.double mn), .second, .val (.int (2 : Int32))] [(.double (0 : UInt64))])) rfl (by rw [hml]; rfl) (argsL := [(.double (0 : UInt64))]) (rest := []) (lenOf pd_15 rfl) rfl (by show 2 * 0 + _ ≤ _; exact Nat.le_of_eq rfl) (hb hby d26_11) (fun _ _ => ⟨rfl, hs11, (by decide : 0 + 0 ≤ _), (by decide : 0 + 0 ≤ _)⟩)
  dsimp only [Pt.U, Pt.locs, Pt.cells, Pt.slots] at X18 l18 y18 z18 st18 hQ18
  subst l18 y18 z18
  obtain ⟨rfl, Nq18, hs18⟩ := hQ18
  have N18 := Fr.app N11 Nq18
  refine Comes.st st18 ?_
  show Comes p e below _ (T18.setTop (mkF m 14 #[.val (.ref xa), .val (.double mn), .second, .val (.int (2 : Int32))] [(.int (1 : Int32))]))
  have hc14_19 : ¬ ((1 : Int32) = (0 : Int32)) := by decide
  refine Comes.st (fun t k => XS.ifNo X18.here hx rfl (hb hby d26_14) rfl ((if0 _ _).trans (feq hc14_19).1) (XS.aloadN X18.here hx rfl (hb hby d26_17) rfl rfl (XS.iloadN X18.here hx rfl (hb hby d26_18) rfl k))) ?_
  show Comes p e below _ (T18.setTop (mkF m 19 #[.val (.ref xa), .val (.double mn), .second, .val (.int (2 : Int32))] [(.int (2 : Int32)), (.ref xa)]))
  obtain ⟨cl20, Ar20, q20, S20, Ng20, H20, Gf20⟩ := id G0
  have hin20 : ¬ ((2 : Int32) < 0 ∨ cl20.slots.size ≤ ((2 : Int32)).toNatClampNeg) := inb_of S20 ⟨by decide, by decide⟩
  refine Comes.st (fun t k => X18.daload hx (j := (2 : Int32)) (v := (.double (0 : UInt64))) (by rw [hs18]; exact Ar20.1) (State.isArrayOf_alike hZ.alike Ar20.2.1) Ar20.2.2 hin20 (Has.at H20 hin20 rfl) (g := (mkF m 19 #[.val (.ref xa), .val (.double mn), .second, .val (.int (2 : Int32))] [(.int (2 : Int32)), (.ref xa)])) rfl rfl (hb hby d26_19) _ (XS.dloadN X18.here hx rfl (hb hby d26_20) rfl k)) ?_
  show Comes p e below _ (T18.setTop (mkF m 21 #[.val (.ref xa), .val (.double mn), .second, .val (.int (2 : Int32))] [(.double mn), (.double (0 : UInt64))]))
  refine Comes.st (fun t k => XS.dcmpS X18.here hx rfl (hb hby d26_21) (v := cm) rfl G1 k) ?_
  show Comes p e below _ (T18.setTop (mkF m 22 #[.val (.ref xa), .val (.double mn), .second, .val (.int (2 : Int32))] [(.int cm)]))
  have hc22_21 : ¬ (cm < (0 : Int32)) := by assumption
  refine Comes.st (fun t k => XS.ifYes X18.here hx rfl (pc0 := 22) (pc' := 27) rfl (hb hby d26_22) rfl ((if0 _ _).trans (flt hc22_21).2.1) (by decide) (by decide) (XS.iinc X18.here hx rfl (hb hby d26_27) rfl (l' := #[.val (.ref xa), .val (.double mn), .second, .val (.int (3 : Int32))]) rfl (XS.goto X18.here hx rfl (pc0 := 30) (pc' := 2) rfl (hb hby d26_30) (by decide) (by decide) (XS.iloadN X18.here hx rfl (hb hby d26_2) rfl (XS.aloadN X18.here hx rfl (hb hby d26_3) rfl rfl k))))) ?_
  show Comes p e below _ (T18.setTop (mkF m 4 #[.val (.ref xa), .val (.double mn), .second, .val (.int (3 : Int32))] [(.ref xa), (.int (3 : Int32))]))
  obtain ⟨cl22, Ar22, -, S22, Ng22, -, -⟩ := id G0
  refine Comes.st (fun t k => X18.arraylength hx (by rw [hs18]; exact Ar22.1) (State.isArrayOf_alike hZ.alike Ar22.2.1) (g := (mkF m 4 #[.val (.ref xa), .val (.double mn), .second, .val (.int (3 : Int32))] [(.ref xa), (.int (3 : Int32))])) rfl rfl (hb hby d26_4) _ k) ?_
  rw [len_of S22 Ng22]
  show Comes p e below _ (T18.setTop (mkF m 5 #[.val (.ref xa), .val (.double mn), .second, .val (.int (3 : Int32))] [(.int (6 : Int32)), (.int (3 : Int32))]))
  have hc5_23 : (3 : Int32) < (6 : Int32) := by decide
  refine Comes.st (fun t k => XS.icmpNo X18.here hx rfl (hb hby d26_5) rfl (tlt hc5_23).2.1 (XS.aloadN X18.here hx rfl (hb hby d26_8) rfl rfl (XS.iloadN X18.here hx rfl (hb hby d26_9) rfl k))) ?_
  show Comes p e below _ (T18.setTop (mkF m 10 #[.val (.ref xa), .val (.double mn), .second, .val (.int (3 : Int32))] [(.int (3 : Int32)), (.ref xa)]))
  obtain ⟨cl24, Ar24, q24, S24, Ng24, H24, Gf24⟩ := id G0
  have hin24 : ¬ ((3 : Int32) < 0 ∨ cl24.slots.size ≤ ((3 : Int32)).toNatClampNeg) := inb_of S24 ⟨by decide, by decide⟩
  refine Comes.st (fun t k => X18.daload hx (j := (3 : Int32)) (v := (.double (0 : UInt64))) (by rw [hs18]; exact Ar24.1) (State.isArrayOf_alike hZ.alike Ar24.2.1) Ar24.2.2 hin24 (Has.at H24 hin24 rfl) (g := (mkF m 10 #[.val (.ref xa), .val (.double mn), .second, .val (.int (3 : Int32))] [(.int (3 : Int32)), (.ref xa)])) rfl rfl (hb hby d26_10) _ k) ?_
  show Comes p e below _ (T18.setTop (mkF m 11 #[.val (.ref xa), .val (.double mn), .second, .val (.int (3 : Int32))] [(.double (0 : UInt64))]))
  obtain ⟨_, _, ⟨T25, L25, k25, n25⟩, -, X25, ⟨Lc25, hQ25, l25, y25, z25⟩, st25⟩ := Jvm.LawKit.callS X18 hx (y := (⟨"java/lang/Double", "isFinite", "(D)Z"⟩ : MethodName)) hown (mvT hZ (W hw 178)) (mvT hZ (W hw 179)) (mvT hZ (W hw 180)) (mvT hZ (W hw 181)) (by decide) (backOf (W := 0) (rm28 l Z a0 hw []  h0 n0 (by omega)  ) hZ (W hw 181) (W hw 180) (by decide) (by decide)) (g := (mkF m 11 #[.val (.ref xa), .val (.double mn), .second, .val (.int (3 : Int32))] [(.double (0 : UInt64))])) rfl (by rw [hml]; rfl) (argsL := [(.double (0 : UInt64))]) (rest := []) (lenOf pd_15 rfl) rfl (by show 2 * 0 + _ ≤ _; exact Nat.le_of_eq rfl) (hb hby d26_11) (fun _ _ => ⟨rfl, hs18, (by decide : 0 + 0 ≤ _), (by decide : 0 + 0 ≤ _)⟩)
  dsimp only [Pt.U, Pt.locs, Pt.cells, Pt.slots] at X25 l25 y25 z25 st25 hQ25
  subst l25 y25 z25
  obtain ⟨rfl, Nq25, hs25⟩ := hQ25
  have N25 := Fr.app N18 Nq25
  refine Comes.st st25 ?_
  show Comes p e below _ (T25.setTop (mkF m 14 #[.val (.ref xa), .val (.double mn), .second, .val (.int (3 : Int32))] [(.int (1 : Int32))]))
  have hc14_26 : ¬ ((1 : Int32) = (0 : Int32)) := by decide
  refine Comes.st (fun t k => XS.ifNo X25.here hx rfl (hb hby d26_14) rfl ((if0 _ _).trans (feq hc14_26).1) (XS.aloadN X25.here hx rfl (hb hby d26_17) rfl rfl (XS.iloadN X25.here hx rfl (hb hby d26_18) rfl k))) ?_
  show Comes p e below _ (T25.setTop (mkF m 19 #[.val (.ref xa), .val (.double mn), .second, .val (.int (3 : Int32))] [(.int (3 : Int32)), (.ref xa)]))
  obtain ⟨cl27, Ar27, q27, S27, Ng27, H27, Gf27⟩ := id G0
  have hin27 : ¬ ((3 : Int32) < 0 ∨ cl27.slots.size ≤ ((3 : Int32)).toNatClampNeg) := inb_of S27 ⟨by decide, by decide⟩
  refine Comes.st (fun t k => X25.daload hx (j := (3 : Int32)) (v := (.double (0 : UInt64))) (by rw [hs25]; exact Ar27.1) (State.isArrayOf_alike hZ.alike Ar27.2.1) Ar27.2.2 hin27 (Has.at H27 hin27 rfl) (g := (mkF m 19 #[.val (.ref xa), .val (.double mn), .second, .val (.int (3 : Int32))] [(.int (3 : Int32)), (.ref xa)])) rfl rfl (hb hby d26_19) _ (XS.dloadN X25.here hx rfl (hb hby d26_20) rfl k)) ?_
  show Comes p e below _ (T25.setTop (mkF m 21 #[.val (.ref xa), .val (.double mn), .second, .val (.int (3 : Int32))] [(.double mn), (.double (0 : UInt64))]))
  refine Comes.st (fun t k => XS.dcmpS X25.here hx rfl (hb hby d26_21) (v := cm) rfl G1 k) ?_
  show Comes p e below _ (T25.setTop (mkF m 22 #[.val (.ref xa), .val (.double mn), .second, .val (.int (3 : Int32))] [(.int cm)]))
  have hc22_28 : ¬ (cm < (0 : Int32)) := by assumption
  refine Comes.st (fun t k => XS.ifYes X25.here hx rfl (pc0 := 22) (pc' := 27) rfl (hb hby d26_22) rfl ((if0 _ _).trans (flt hc22_28).2.1) (by decide) (by decide) (XS.iinc X25.here hx rfl (hb hby d26_27) rfl (l' := #[.val (.ref xa), .val (.double mn), .second, .val (.int (4 : Int32))]) rfl (XS.goto X25.here hx rfl (pc0 := 30) (pc' := 2) rfl (hb hby d26_30) (by decide) (by decide) (XS.iloadN X25.here hx rfl (hb hby d26_2) rfl (XS.aloadN X25.here hx rfl (hb hby d26_3) rfl rfl k))))) ?_
  show Comes p e below _ (T25.setTop (mkF m 4 #[.val (.ref xa), .val (.double mn), .second, .val (.int (4 : Int32))] [(.ref xa), (.int (4 : Int32))]))
  obtain ⟨cl29, Ar29, -, S29, Ng29, -, -⟩ := id G0
  refine Comes.st (fun t k => X25.arraylength hx (by rw [hs25]; exact Ar29.1) (State.isArrayOf_alike hZ.alike Ar29.2.1) (g := (mkF m 4 #[.val (.ref xa), .val (.double mn), .second, .val (.int (4 : Int32))] [(.ref xa), (.int (4 : Int32))])) rfl rfl (hb hby d26_4) _ k) ?_
  rw [len_of S29 Ng29]
  show Comes p e below _ (T25.setTop (mkF m 5 #[.val (.ref xa), .val (.double mn), .second, .val (.int (4 : Int32))] [(.int (6 : Int32)), (.int (4 : Int32))]))
  have hc5_30 : (4 : Int32) < (6 : Int32) := by decide
  refine Comes.st (fun t k => XS.icmpNo X25.here hx rfl (hb hby d26_5) rfl (tlt hc5_30).2.1 (XS.aloadN X25.here hx rfl (hb hby d26_8) rfl rfl (XS.iloadN X25.here hx rfl (hb hby d26_9) rfl k))) ?_
  show Comes p e below _ (T25.setTop (mkF m 10 #[.val (.ref xa), .val (.double mn), .second, .val (.int (4 : Int32))] [(.int (4 : Int32)), (.ref xa)]))
  obtain ⟨cl31, Ar31, q31, S31, Ng31, H31, Gf31⟩ := id G0
  have hin31 : ¬ ((4 : Int32) < 0 ∨ cl31.slots.size ≤ ((4 : Int32)).toNatClampNeg) := inb_of S31 ⟨by decide, by decide⟩
  refine Comes.st (fun t k => X25.daload hx (j := (4 : Int32)) (v := (.double (0 : UInt64))) (by rw [hs25]; exact Ar31.1) (State.isArrayOf_alike hZ.alike Ar31.2.1) Ar31.2.2 hin31 (Has.at H31 hin31 rfl) (g := (mkF m 10 #[.val (.ref xa), .val (.double mn), .second, .val (.int (4 : Int32))] [(.int (4 : Int32)), (.ref xa)])) rfl rfl (hb hby d26_10) _ k) ?_
  show Comes p e below _ (T25.setTop (mkF m 11 #[.val (.ref xa), .val (.double mn), .second, .val (.int (4 : Int32))] [(.double (0 : UInt64))]))
  obtain ⟨_, _, ⟨T32, L32, k32, n32⟩, -, X32, ⟨Lc32, hQ32, l32, y32, z32⟩, st32⟩ := Jvm.LawKit.callS X25 hx (y := (⟨"java/lang/Double", "isFinite", "(D)Z"⟩ : MethodName)) hown (mvT hZ (W hw 178)) (mvT hZ (W hw 179)) (mvT hZ (W hw 180)) (mvT hZ (W hw 181)) (by decide) (backOf (W := 0) (rm28 l Z a0 hw []  h0 n0 (by omega)  ) hZ (W hw 181) (W hw 180) (by decide) (by decide)) (g := (mkF m 11 #[.val (.ref xa), .val (.double mn), .second, .val (.int (4 : Int32))] [(.double (0 : UInt64))])) rfl (by rw [hml]; rfl) (argsL := [(.double (0 : UInt64))]) (rest := []) (lenOf pd_15 rfl) rfl (by show 2 * 0 + _ ≤ _; exact Nat.le_of_eq rfl) (hb hby d26_11) (fun _ _ => ⟨rfl, hs25, (by decide : 0 + 0 ≤ _), (by decide : 0 + 0 ≤ _)⟩)
  dsimp only [Pt.U, Pt.locs, Pt.cells, Pt.slots] at X32 l32 y32 z32 st32 hQ32
  subst l32 y32 z32
  obtain ⟨rfl, Nq32, hs32⟩ := hQ32
  have N32 := Fr.app N25 Nq32
  refine Comes.st st32 ?_
  show Comes p e below _ (T32.setTop (mkF m 14 #[.val (.ref xa), .val (.double mn), .second, .val (.int (4 : Int32))] [(.int (1 : Int32))]))
  have hc14_33 : ¬ ((1 : Int32) = (0 : Int32)) := by decide
  refine Comes.st (fun t k => XS.ifNo X32.here hx rfl (hb hby d26_14) rfl ((if0 _ _).trans (feq hc14_33).1) (XS.aloadN X32.here hx rfl (hb hby d26_17) rfl rfl (XS.iloadN X32.here hx rfl (hb hby d26_18) rfl k))) ?_
  show Comes p e below _ (T32.setTop (mkF m 19 #[.val (.ref xa), .val (.double mn), .second, .val (.int (4 : Int32))] [(.int (4 : Int32)), (.ref xa)]))
  obtain ⟨cl34, Ar34, q34, S34, Ng34, H34, Gf34⟩ := id G0
  have hin34 : ¬ ((4 : Int32) < 0 ∨ cl34.slots.size ≤ ((4 : Int32)).toNatClampNeg) := inb_of S34 ⟨by decide, by decide⟩
  refine Comes.st (fun t k => X32.daload hx (j := (4 : Int32)) (v := (.double (0 : UInt64))) (by rw [hs32]; exact Ar34.1) (State.isArrayOf_alike hZ.alike Ar34.2.1) Ar34.2.2 hin34 (Has.at H34 hin34 rfl) (g := (mkF m 19 #[.val (.ref xa), .val (.double mn), .second, .val (.int (4 : Int32))] [(.int (4 : Int32)), (.ref xa)])) rfl rfl (hb hby d26_19) _ (XS.dloadN X32.here hx rfl (hb hby d26_20) rfl k)) ?_
  show Comes p e below _ (T32.setTop (mkF m 21 #[.val (.ref xa), .val (.double mn), .second, .val (.int (4 : Int32))] [(.double mn), (.double (0 : UInt64))]))
  refine Comes.st (fun t k => XS.dcmpS X32.here hx rfl (hb hby d26_21) (v := cm) rfl G1 k) ?_
  show Comes p e below _ (T32.setTop (mkF m 22 #[.val (.ref xa), .val (.double mn), .second, .val (.int (4 : Int32))] [(.int cm)]))
  have hc22_35 : ¬ (cm < (0 : Int32)) := by assumption
  refine Comes.st (fun t k => XS.ifYes X32.here hx rfl (pc0 := 22) (pc' := 27) rfl (hb hby d26_22) rfl ((if0 _ _).trans (flt hc22_35).2.1) (by decide) (by decide) (XS.iinc X32.here hx rfl (hb hby d26_27) rfl (l' := #[.val (.ref xa), .val (.double mn), .second, .val (.int (5 : Int32))]) rfl (XS.goto X32.here hx rfl (pc0 := 30) (pc' := 2) rfl (hb hby d26_30) (by decide) (by decide) (XS.iloadN X32.here hx rfl (hb hby d26_2) rfl (XS.aloadN X32.here hx rfl (hb hby d26_3) rfl rfl k))))) ?_
  show Comes p e below _ (T32.setTop (mkF m 4 #[.val (.ref xa), .val (.double mn), .second, .val (.int (5 : Int32))] [(.ref xa), (.int (5 : Int32))]))
  obtain ⟨cl36, Ar36, -, S36, Ng36, -, -⟩ := id G0
  refine Comes.st (fun t k => X32.arraylength hx (by rw [hs32]; exact Ar36.1) (State.isArrayOf_alike hZ.alike Ar36.2.1) (g := (mkF m 4 #[.val (.ref xa), .val (.double mn), .second, .val (.int (5 : Int32))] [(.ref xa), (.int (5 : Int32))])) rfl rfl (hb hby d26_4) _ k) ?_
  rw [len_of S36 Ng36]
  show Comes p e below _ (T32.setTop (mkF m 5 #[.val (.ref xa), .val (.double mn), .second, .val (.int (5 : Int32))] [(.int (6 : Int32)), (.int (5 : Int32))]))
  have hc5_37 : (5 : Int32) < (6 : Int32) := by decide
  refine Comes.st (fun t k => XS.icmpNo X32.here hx rfl (hb hby d26_5) rfl (tlt hc5_37).2.1 (XS.aloadN X32.here hx rfl (hb hby d26_8) rfl rfl (XS.iloadN X32.here hx rfl (hb hby d26_9) rfl k))) ?_
  show Comes p e below _ (T32.setTop (mkF m 10 #[.val (.ref xa), .val (.double mn), .second, .val (.int (5 : Int32))] [(.int (5 : Int32)), (.ref xa)]))
  obtain ⟨cl38, Ar38, q38, S38, Ng38, H38, Gf38⟩ := id G0
  have hin38 : ¬ ((5 : Int32) < 0 ∨ cl38.slots.size ≤ ((5 : Int32)).toNatClampNeg) := inb_of S38 ⟨by decide, by decide⟩
  refine Comes.st (fun t k => X32.daload hx (j := (5 : Int32)) (v := (.double (0 : UInt64))) (by rw [hs32]; exact Ar38.1) (State.isArrayOf_alike hZ.alike Ar38.2.1) Ar38.2.2 hin38 (Has.at H38 hin38 rfl) (g := (mkF m 10 #[.val (.ref xa), .val (.double mn), .second, .val (.int (5 : Int32))] [(.int (5 : Int32)), (.ref xa)])) rfl rfl (hb hby d26_10) _ k) ?_
  show Comes p e below _ (T32.setTop (mkF m 11 #[.val (.ref xa), .val (.double mn), .second, .val (.int (5 : Int32))] [(.double (0 : UInt64))]))
  obtain ⟨_, _, ⟨T39, L39, k39, n39⟩, -, X39, ⟨Lc39, hQ39, l39, y39, z39⟩, st39⟩ := Jvm.LawKit.callS X32 hx (y := (⟨"java/lang/Double", "isFinite", "(D)Z"⟩ : MethodName)) hown (mvT hZ (W hw 178)) (mvT hZ (W hw 179)) (mvT hZ (W hw 180)) (mvT hZ (W hw 181)) (by decide) (backOf (W := 0) (rm28 l Z a0 hw []  h0 n0 (by omega)  ) hZ (W hw 181) (W hw 180) (by decide) (by decide)) (g := (mkF m 11 #[.val (.ref xa), .val (.double mn), .second, .val (.int (5 : Int32))] [(.double (0 : UInt64))])) rfl (by rw [hml]; rfl) (argsL := [(.double (0 : UInt64))]) (rest := []) (lenOf pd_15 rfl) rfl (by show 2 * 0 + _ ≤ _; exact Nat.le_of_eq rfl) (hb hby d26_11) (fun _ _ => ⟨rfl, hs32, (by decide : 0 + 0 ≤ _), (by decide : 0 + 0 ≤ _)⟩)
  dsimp only [Pt.U, Pt.locs, Pt.cells, Pt.slots] at X39 l39 y39 z39 st39 hQ39
  subst l39 y39 z39
  obtain ⟨rfl, Nq39, hs39⟩ := hQ39
  have N39 := Fr.app N32 Nq39
  refine Comes.st st39 ?_
  show Comes p e below _ (T39.setTop (mkF m 14 #[.val (.ref xa), .val (.double mn), .second, .val (.int (5 : Int32))] [(.int (1 : Int32))]))
  have hc14_40 : ¬ ((1 : Int32) = (0 : Int32)) := by decide
  refine Comes.st (fun t k => XS.ifNo X39.here hx rfl (hb hby d26_14) rfl ((if0 _ _).trans (feq hc14_40).1) (XS.aloadN X39.here hx rfl (hb hby d26_17) rfl rfl (XS.iloadN X39.here hx rfl (hb hby d26_18) rfl k))) ?_
  show Comes p e below _ (T39.setTop (mkF m 19 #[.val (.ref xa), .val (.double mn), .second, .val (.int (5 : Int32))] [(.int (5 : Int32)), (.ref xa)]))
  obtain ⟨cl41, Ar41, q41, S41, Ng41, H41, Gf41⟩ := id G0
  have hin41 : ¬ ((5 : Int32) < 0 ∨ cl41.slots.size ≤ ((5 : Int32)).toNatClampNeg) := inb_of S41 ⟨by decide, by decide⟩
  refine Comes.st (fun t k => X39.daload hx (j := (5 : Int32)) (v := (.double (0 : UInt64))) (by rw [hs39]; exact Ar41.1) (State.isArrayOf_alike hZ.alike Ar41.2.1) Ar41.2.2 hin41 (Has.at H41 hin41 rfl) (g := (mkF m 19 #[.val (.ref xa), .val (.double mn), .second, .val (.int (5 : Int32))] [(.int (5 : Int32)), (.ref xa)])) rfl rfl (hb hby d26_19) _ (XS.dloadN X39.here hx rfl (hb hby d26_20) rfl k)) ?_
  show Comes p e below _ (T39.setTop (mkF m 21 #[.val (.ref xa), .val (.double mn), .second, .val (.int (5 : Int32))] [(.double mn), (.double (0 : UInt64))]))
  refine Comes.st (fun t k => XS.dcmpS X39.here hx rfl (hb hby d26_21) (v := cm) rfl G1 k) ?_
  show Comes p e below _ (T39.setTop (mkF m 22 #[.val (.ref xa), .val (.double mn), .second, .val (.int (5 : Int32))] [(.int cm)]))
  have hc22_42 : ¬ (cm < (0 : Int32)) := by assumption
  refine Comes.st (fun t k => XS.ifYes X39.here hx rfl (pc0 := 22) (pc' := 27) rfl (hb hby d26_22) rfl ((if0 _ _).trans (flt hc22_42).2.1) (by decide) (by decide) (XS.iinc X39.here hx rfl (hb hby d26_27) rfl (l' := #[.val (.ref xa), .val (.double mn), .second, .val (.int (6 : Int32))]) rfl (XS.goto X39.here hx rfl (pc0 := 30) (pc' := 2) rfl (hb hby d26_30) (by decide) (by decide) (XS.iloadN X39.here hx rfl (hb hby d26_2) rfl (XS.aloadN X39.here hx rfl (hb hby d26_3) rfl rfl k))))) ?_
  show Comes p e below _ (T39.setTop (mkF m 4 #[.val (.ref xa), .val (.double mn), .second, .val (.int (6 : Int32))] [(.ref xa), (.int (6 : Int32))]))
  obtain ⟨cl43, Ar43, -, S43, Ng43, -, -⟩ := id G0
  refine Comes.st (fun t k => X39.arraylength hx (by rw [hs39]; exact Ar43.1) (State.isArrayOf_alike hZ.alike Ar43.2.1) (g := (mkF m 4 #[.val (.ref xa), .val (.double mn), .second, .val (.int (6 : Int32))] [(.ref xa), (.int (6 : Int32))])) rfl rfl (hb hby d26_4) _ k) ?_
  rw [len_of S43 Ng43]
  show Comes p e below _ (T39.setTop (mkF m 5 #[.val (.ref xa), .val (.double mn), .second, .val (.int (6 : Int32))] [(.int (6 : Int32)), (.int (6 : Int32))]))
  have hc5_44 : ¬ ((6 : Int32) < (6 : Int32)) := by decide
  refine Comes.st (fun t k => XS.icmpYes X39.here hx rfl (pc0 := 5) (pc' := 33) rfl (hb hby d26_5) rfl (flt hc5_44).2.1 (by decide) (by decide) (XS.iconst X39.here hx rfl (hb hby d26_33) k)) ?_
  show Comes p e below _ (T39.setTop (mkF m 34 #[.val (.ref xa), .val (.double mn), .second, .val (.int (6 : Int32))] [(.int (-1 : Int32))]))
  exact Comes.retV X39 hx Bd.returns rfl (Or.inl ⟨rfl, Or.inl rfl, _, rfl⟩) hlk (hb hby d26_34) hs39 ⟨rfl, N39, rfl⟩ (by decide) (by decide)
def Q_fb7 (Z : State) (xa : Nat) (mn : UInt64) (ka : ClassId) (cm : Int32) (h0 : Heap) (n0 : Nat) (v_ : Option Value) (h : Heap) (L_ : List Loc) : Prop := (v_ = some (.int (-1 : Int32))) ∧ (Fr n0 L_) ∧ (h = h0)
theorem fb7 (l : Launch) (Z : State) (a0 : Array Value) (hw : ∀ d ∈ tables_1, d.before a0 Z = true) (ws : List Jvm.Cond) (xa : Nat) (mn : UInt64) (ka : ClassId) (cm : Int32) (h0 : Heap) (n0 : Nat) (Z0 : n0 ≤ h0.size) (G0 : Arv Z h0 xa ka .double (7 : Int32) [(.double (0 : UInt64)), (.double (0 : UInt64)), (.double (0 : UInt64)), (.double (0 : UInt64)), (.double (0 : UInt64)), (.double (0 : UInt64)), (.double (0 : UInt64))] (.double (0 : UInt64))) (G1 : cmpValue (FP.dcmp (0 : UInt64) mn) .g = cm) (G2 : ¬ (cm < (0 : Int32))) :
    MetFree l (⟨"com/example/ordr/ordr/model/Layout", "firstBelow", "([DD)I"⟩ : MethodName) (head1 (Jvm.Cond.code (⟨"com/example/ordr/ordr/model/Layout", "firstBelow", "([DD)I"⟩ : MethodName) prog_86_method_18_code 4 (some .int) :: ws) (Rm 2 0 0 26)) (fun a_ U_ => a_ = #[(.ref xa), (.double mn)] ∧ Z.Warmed39 U_.vm ∧ U_.heap = h0) (fun _ _ _ _ _ => True) (fun _ U_ o_ V_ => ∃ v_ L_, o_ = .returned v_ ∧ Q_fb7 Z xa mn ka cm h0 n0 v_ V_.heap L_ ∧ FrameEnd U_ o_ V_ L_ (Rm 2 0 0 26).cells (Rm 2 0 0 26).slots) := by
  refine MetFree.of_bodySF (plainFor_of_name pn_26) hisR ?_
  intro p e s m args below meth c s₁ Bd hml0 hP hK
  obtain ⟨rfl, hZ, hh⟩ := hP
  have hx := Bd.exec
  have hby := Bd.bytes
  have hml : c.maxLocals = 4 := hml0
  have hown : s.vm.findClass "com/example/ordr/ordr/model/Layout" = some m.cls := findClass_of_methodNamed Bd.named
  have hnm := (name_of_methodNamed Bd.named Bd.method).1
  have hlk : meth.locks = false := Bd.notSynchronized
  have X0 : Stand p l e (Rm 2 0 0 26) s m #[(.ref xa), (.double mn)] below meth c s₁ [] 0 0 := Stand.of_body Bd
  have e0 : s₁.heap = h0 := by rw [← hh, Bd.state]; rfl
  have N0 := Fr.nil n0
  refine Comes.out (Q := Q_fb7 Z xa mn ka cm h0 n0) (kc := (Rm 2 0 0 26).cells) (ks := (Rm 2 0 0 26).slots) ?_
  refine Comes.cast (ef_fb7 m xa mn) ?_
  have lt_xa : xa < h0.size := G0.lt
  show Comes p e below _ (s₁.setTop (mkF m 0 #[.val (.ref xa), .val (.double mn), .second, .unset] []))
  refine Comes.st (fun t k => XS.iconst X0.here hx rfl (hb hby d26_0) (XS.istoreN X0.here hx rfl (hb hby d26_1) rfl (l' := #[.val (.ref xa), .val (.double mn), .second, .val (.int (0 : Int32))]) rfl (XS.iloadN X0.here hx rfl (hb hby d26_2) rfl (XS.aloadN X0.here hx rfl (hb hby d26_3) rfl rfl k)))) ?_
  show Comes p e below _ (s₁.setTop (mkF m 4 #[.val (.ref xa), .val (.double mn), .second, .val (.int (0 : Int32))] [(.ref xa), (.int (0 : Int32))]))
  obtain ⟨cl1, Ar1, -, S1, Ng1, -, -⟩ := id G0
  refine Comes.st (fun t k => X0.arraylength hx (by rw [e0]; exact Ar1.1) (State.isArrayOf_alike hZ.alike Ar1.2.1) (g := (mkF m 4 #[.val (.ref xa), .val (.double mn), .second, .val (.int (0 : Int32))] [(.ref xa), (.int (0 : Int32))])) rfl rfl (hb hby d26_4) _ k) ?_
  rw [len_of S1 Ng1]
  show Comes p e below _ (s₁.setTop (mkF m 5 #[.val (.ref xa), .val (.double mn), .second, .val (.int (0 : Int32))] [(.int (7 : Int32)), (.int (0 : Int32))]))
  have hc5_2 : (0 : Int32) < (7 : Int32) := by decide
  refine Comes.st (fun t k => XS.icmpNo X0.here hx rfl (hb hby d26_5) rfl (tlt hc5_2).2.1 (XS.aloadN X0.here hx rfl (hb hby d26_8) rfl rfl (XS.iloadN X0.here hx rfl (hb hby d26_9) rfl k))) ?_
  show Comes p e below _ (s₁.setTop (mkF m 10 #[.val (.ref xa), .val (.double mn), .second, .val (.int (0 : Int32))] [(.int (0 : Int32)), (.ref xa)]))
  obtain ⟨cl3, Ar3, q3, S3, Ng3, H3, Gf3⟩ := id G0
  have hin3 : ¬ ((0 : Int32) < 0 ∨ cl3.slots.size ≤ ((0 : Int32)).toNatClampNeg) := inb_of S3 ⟨by decide, by decide⟩
  refine Comes.st (fun t k => X0.daload hx (j := (0 : Int32)) (v := (.double (0 : UInt64))) (by rw [e0]; exact Ar3.1) (State.isArrayOf_alike hZ.alike Ar3.2.1) Ar3.2.2 hin3 (Has.at H3 hin3 rfl) (g := (mkF m 10 #[.val (.ref xa), .val (.double mn), .second, .val (.int (0 : Int32))] [(.int (0 : Int32)), (.ref xa)])) rfl rfl (hb hby d26_10) _ k) ?_
  show Comes p e below _ (s₁.setTop (mkF m 11 #[.val (.ref xa), .val (.double mn), .second, .val (.int (0 : Int32))] [(.double (0 : UInt64))]))
  obtain ⟨_, _, ⟨T4, L4, k4, n4⟩, -, X4, ⟨Lc4, hQ4, l4, y4, z4⟩, st4⟩ := Jvm.LawKit.callS X0 hx (y := (⟨"java/lang/Double", "isFinite", "(D)Z"⟩ : MethodName)) hown (mvT hZ (W hw 178)) (mvT hZ (W hw 179)) (mvT hZ (W hw 180)) (mvT hZ (W hw 181)) (by decide) (backOf (W := 0) (rm28 l Z a0 hw []  h0 n0 (by omega)  ) hZ (W hw 181) (W hw 180) (by decide) (by decide)) (g := (mkF m 11 #[.val (.ref xa), .val (.double mn), .second, .val (.int (0 : Int32))] [(.double (0 : UInt64))])) rfl (by rw [hml]; rfl) (argsL := [(.double (0 : UInt64))]) (rest := []) (lenOf pd_15 rfl) rfl (by show 2 * 0 + _ ≤ _; exact Nat.le_of_eq rfl) (hb hby d26_11) (fun _ _ => ⟨rfl, e0, (by decide : 0 + 0 ≤ _), (by decide : 0 + 0 ≤ _)⟩)
  dsimp only [Pt.U, Pt.locs, Pt.cells, Pt.slots] at X4 l4 y4 z4 st4 hQ4
  subst l4 y4 z4
  obtain ⟨rfl, Nq4, hs4⟩ := hQ4
  have N4 := Fr.app N0 Nq4
  refine Comes.st st4 ?_
  show Comes p e below _ (T4.setTop (mkF m 14 #[.val (.ref xa), .val (.double mn), .second, .val (.int (0 : Int32))] [(.int (1 : Int32))]))
  have hc14_5 : ¬ ((1 : Int32) = (0 : Int32)) := by decide
  refine Comes.st (fun t k => XS.ifNo X4.here hx rfl (hb hby d26_14) rfl ((if0 _ _).trans (feq hc14_5).1) (XS.aloadN X4.here hx rfl (hb hby d26_17) rfl rfl (XS.iloadN X4.here hx rfl (hb hby d26_18) rfl k))) ?_
  show Comes p e below _ (T4.setTop (mkF m 19 #[.val (.ref xa), .val (.double mn), .second, .val (.int (0 : Int32))] [(.int (0 : Int32)), (.ref xa)]))
  obtain ⟨cl6, Ar6, q6, S6, Ng6, H6, Gf6⟩ := id G0
  have hin6 : ¬ ((0 : Int32) < 0 ∨ cl6.slots.size ≤ ((0 : Int32)).toNatClampNeg) := inb_of S6 ⟨by decide, by decide⟩
  refine Comes.st (fun t k => X4.daload hx (j := (0 : Int32)) (v := (.double (0 : UInt64))) (by rw [hs4]; exact Ar6.1) (State.isArrayOf_alike hZ.alike Ar6.2.1) Ar6.2.2 hin6 (Has.at H6 hin6 rfl) (g := (mkF m 19 #[.val (.ref xa), .val (.double mn), .second, .val (.int (0 : Int32))] [(.int (0 : Int32)), (.ref xa)])) rfl rfl (hb hby d26_19) _ (XS.dloadN X4.here hx rfl (hb hby d26_20) rfl k)) ?_
  show Comes p e below _ (T4.setTop (mkF m 21 #[.val (.ref xa), .val (.double mn), .second, .val (.int (0 : Int32))] [(.double mn), (.double (0 : UInt64))]))
  refine Comes.st (fun t k => XS.dcmpS X4.here hx rfl (hb hby d26_21) (v := cm) rfl G1 k) ?_
  show Comes p e below _ (T4.setTop (mkF m 22 #[.val (.ref xa), .val (.double mn), .second, .val (.int (0 : Int32))] [(.int cm)]))
  have hc22_7 : ¬ (cm < (0 : Int32)) := by assumption
  refine Comes.st (fun t k => XS.ifYes X4.here hx rfl (pc0 := 22) (pc' := 27) rfl (hb hby d26_22) rfl ((if0 _ _).trans (flt hc22_7).2.1) (by decide) (by decide) (XS.iinc X4.here hx rfl (hb hby d26_27) rfl (l' := #[.val (.ref xa), .val (.double mn), .second, .val (.int (1 : Int32))]) rfl (XS.goto X4.here hx rfl (pc0 := 30) (pc' := 2) rfl (hb hby d26_30) (by decide) (by decide) (XS.iloadN X4.here hx rfl (hb hby d26_2) rfl (XS.aloadN X4.here hx rfl (hb hby d26_3) rfl rfl k))))) ?_
  show Comes p e below _ (T4.setTop (mkF m 4 #[.val (.ref xa), .val (.double mn), .second, .val (.int (1 : Int32))] [(.ref xa), (.int (1 : Int32))]))
  obtain ⟨cl8, Ar8, -, S8, Ng8, -, -⟩ := id G0
  refine Comes.st (fun t k => X4.arraylength hx (by rw [hs4]; exact Ar8.1) (State.isArrayOf_alike hZ.alike Ar8.2.1) (g := (mkF m 4 #[.val (.ref xa), .val (.double mn), .second, .val (.int (1 : Int32))] [(.ref xa), (.int (1 : Int32))])) rfl rfl (hb hby d26_4) _ k) ?_
  rw [len_of S8 Ng8]
  show Comes p e below _ (T4.setTop (mkF m 5 #[.val (.ref xa), .val (.double mn), .second, .val (.int (1 : Int32))] [(.int (7 : Int32)), (.int (1 : Int32))]))
  have hc5_9 : (1 : Int32) < (7 : Int32) := by decide
  refine Comes.st (fun t k => XS.icmpNo X4.here hx rfl (hb hby d26_5) rfl (tlt hc5_9).2.1 (XS.aloadN X4.here hx rfl (hb hby d26_8) rfl rfl (XS.iloadN X4.here hx rfl (hb hby d26_9) rfl k))) ?_
  show Comes p e below _ (T4.setTop (mkF m 10 #[.val (.ref xa), .val (.double mn), .second, .val (.int (1 : Int32))] [(.int (1 : Int32)), (.ref xa)]))
  obtain ⟨cl10, Ar10, q10, S10, Ng10, H10, Gf10⟩ := id G0
  have hin10 : ¬ ((1 : Int32) < 0 ∨ cl10.slots.size ≤ ((1 : Int32)).toNatClampNeg) := inb_of S10 ⟨by decide, by decide⟩
  refine Comes.st (fun t k => X4.daload hx (j := (1 : Int32)) (v := (.double (0 : UInt64))) (by rw [hs4]; exact Ar10.1) (State.isArrayOf_alike hZ.alike Ar10.2.1) Ar10.2.2 hin10 (Has.at H10 hin10 rfl) (g := (mkF m 10 #[.val (.ref xa), .val (.double mn), .second, .val (.int (1 : Int32))] [(.int (1 : Int32)), (.ref xa)])) rfl rfl (hb hby d26_10) _ k) ?_
  show Comes p e below _ (T4.setTop (mkF m 11 #[.val (.ref xa), .val (.double mn), .second, .val (.int (1 : Int32))] [(.double (0 : UInt64))]))
  obtain ⟨_, _, ⟨T11, L11, k11, n11⟩, -, X11, ⟨Lc11, hQ11, l11, y11, z11⟩, st11⟩ := Jvm.LawKit.callS X4 hx (y := (⟨"java/lang/Double", "isFinite", "(D)Z"⟩ : MethodName)) hown (mvT hZ (W hw 178)) (mvT hZ (W hw 179)) (mvT hZ (W hw 180)) (mvT hZ (W hw 181)) (by decide) (backOf (W := 0) (rm28 l Z a0 hw []  h0 n0 (by omega)  ) hZ (W hw 181) (W hw 180) (by decide) (by decide)) (g := (mkF m 11 #[.val (.ref xa), .val (.double mn), .second, .val (.int (1 : Int32))] [(.double (0 : UInt64))])) rfl (by rw [hml]; rfl) (argsL := [(.double (0 : UInt64))]) (rest := []) (lenOf pd_15 rfl) rfl (by show 2 * 0 + _ ≤ _; exact Nat.le_of_eq rfl) (hb hby d26_11) (fun _ _ => ⟨rfl, hs4, (by decide : 0 + 0 ≤ _), (by decide : 0 + 0 ≤ _)⟩)
  dsimp only [Pt.U, Pt.locs, Pt.cells, Pt.slots] at X11 l11 y11 z11 st11 hQ11
  subst l11 y11 z11
  obtain ⟨rfl, Nq11, hs11⟩ := hQ11
  have N11 := Fr.app N4 Nq11
  refine Comes.st st11 ?_
  show Comes p e below _ (T11.setTop (mkF m 14 #[.val (.ref xa), .val (.double mn), .second, .val (.int (1 : Int32))] [(.int (1 : Int32))]))
  have hc14_12 : ¬ ((1 : Int32) = (0 : Int32)) := by decide
  refine Comes.st (fun t k => XS.ifNo X11.here hx rfl (hb hby d26_14) rfl ((if0 _ _).trans (feq hc14_12).1) (XS.aloadN X11.here hx rfl (hb hby d26_17) rfl rfl (XS.iloadN X11.here hx rfl (hb hby d26_18) rfl k))) ?_
  show Comes p e below _ (T11.setTop (mkF m 19 #[.val (.ref xa), .val (.double mn), .second, .val (.int (1 : Int32))] [(.int (1 : Int32)), (.ref xa)]))
  obtain ⟨cl13, Ar13, q13, S13, Ng13, H13, Gf13⟩ := id G0
  have hin13 : ¬ ((1 : Int32) < 0 ∨ cl13.slots.size ≤ ((1 : Int32)).toNatClampNeg) := inb_of S13 ⟨by decide, by decide⟩
  refine Comes.st (fun t k => X11.daload hx (j := (1 : Int32)) (v := (.double (0 : UInt64))) (by rw [hs11]; exact Ar13.1) (State.isArrayOf_alike hZ.alike Ar13.2.1) Ar13.2.2 hin13 (Has.at H13 hin13 rfl) (g := (mkF m 19 #[.val (.ref xa), .val (.double mn), .second, .val (.int (1 : Int32))] [(.int (1 : Int32)), (.ref xa)])) rfl rfl (hb hby d26_19) _ (XS.dloadN X11.here hx rfl (hb hby d26_20) rfl k)) ?_
  show Comes p e below _ (T11.setTop (mkF m 21 #[.val (.ref xa), .val (.double mn), .second, .val (.int (1 : Int32))] [(.double mn), (.double (0 : UInt64))]))
  refine Comes.st (fun t k => XS.dcmpS X11.here hx rfl (hb hby d26_21) (v := cm) rfl G1 k) ?_
  show Comes p e below _ (T11.setTop (mkF m 22 #[.val (.ref xa), .val (.double mn), .second, .val (.int (1 : Int32))] [(.int cm)]))
  have hc22_14 : ¬ (cm < (0 : Int32)) := by assumption
  refine Comes.st (fun t k => XS.ifYes X11.here hx rfl (pc0 := 22) (pc' := 27) rfl (hb hby d26_22) rfl ((if0 _ _).trans (flt hc22_14).2.1) (by decide) (by decide) (XS.iinc X11.here hx rfl (hb hby d26_27) rfl (l' := #[.val (.ref xa), .val (.double mn), .second, .val (.int (2 : Int32))]) rfl (XS.goto X11.here hx rfl (pc0 := 30) (pc' := 2) rfl (hb hby d26_30) (by decide) (by decide) (XS.iloadN X11.here hx rfl (hb hby d26_2) rfl (XS.aloadN X11.here hx rfl (hb hby d26_3) rfl rfl k))))) ?_
  show Comes p e below _ (T11.setTop (mkF m 4 #[.val (.ref xa), .val (.double mn), .second, .val (.int (2 : Int32))] [(.ref xa), (.int (2 : Int32))]))
  obtain ⟨cl15, Ar15, -, S15, Ng15, -, -⟩ := id G0
  refine Comes.st (fun t k => X11.arraylength hx (by rw [hs11]; exact Ar15.1) (State.isArrayOf_alike hZ.alike Ar15.2.1) (g := (mkF m 4 #[.val (.ref xa), .val (.double mn), .second, .val (.int (2 : Int32))] [(.ref xa), (.int (2 : Int32))])) rfl rfl (hb hby d26_4) _ k) ?_
  rw [len_of S15 Ng15]
  show Comes p e below _ (T11.setTop (mkF m 5 #[.val (.ref xa), .val (.double mn), .second, .val (.int (2 : Int32))] [(.int (7 : Int32)), (.int (2 : Int32))]))
  have hc5_16 : (2 : Int32) < (7 : Int32) := by decide
  refine Comes.st (fun t k => XS.icmpNo X11.here hx rfl (hb hby d26_5) rfl (tlt hc5_16).2.1 (XS.aloadN X11.here hx rfl (hb hby d26_8) rfl rfl (XS.iloadN X11.here hx rfl (hb hby d26_9) rfl k))) ?_
  show Comes p e below _ (T11.setTop (mkF m 10 #[.val (.ref xa), .val (.double mn), .second, .val (.int (2 : Int32))] [(.int (2 : Int32)), (.ref xa)]))
  obtain ⟨cl17, Ar17, q17, S17, Ng17, H17, Gf17⟩ := id G0
  have hin17 : ¬ ((2 : Int32) < 0 ∨ cl17.slots.size ≤ ((2 : Int32)).toNatClampNeg) := inb_of S17 ⟨by decide, by decide⟩
  refine Comes.st (fun t k => X11.daload hx (j := (2 : Int32)) (v := (.double (0 : UInt64))) (by rw [hs11]; exact Ar17.1) (State.isArrayOf_alike hZ.alike Ar17.2.1) Ar17.2.2 hin17 (Has.at H17 hin17 rfl) (g := (mkF m 10 #[.val (.ref xa), .val (.double mn), .second, .val (.int (2 : Int32))] [(.int (2 : Int32)), (.ref xa)])) rfl rfl (hb hby d26_10) _ k) ?_
  show Comes p e below _ (T11.setTop (mkF m 11 #[.val (.ref xa), .val (.double mn), .second, .val (.int (2 : Int32))] [(.double (0 : UInt64))]))
  obtain ⟨_, _, ⟨T18, L18, k18, n18⟩, -, X18, ⟨Lc18, hQ18, l18, y18, z18⟩, st18⟩ := Jvm.LawKit.callS X11 hx (y := (⟨"java/lang/Double", "isFinite", "(D)Z"⟩ : MethodName)) hown (mvT hZ (W hw 178)) (mvT hZ (W hw 179)) (mvT hZ (W hw 180)) (mvT hZ (W hw 181)) (by decide) (backOf (W := 0) (rm28 l Z a0 hw []  h0 n0 (by omega)  ) hZ (W hw 181) (W hw 180) (by decide) (by decide)) (g := (mkF m 11 #[.val (.ref xa), .val (.double mn), .second, .val (.int (2 : Int32))] [(.double (0 : UInt64))])) rfl (by rw [hml]; rfl) (argsL := [(.double (0 : UInt64))]) (rest := []) (lenOf pd_15 rfl) rfl (by show 2 * 0 + _ ≤ _; exact Nat.le_of_eq rfl) (hb hby d26_11) (fun _ _ => ⟨rfl, hs11, (by decide : 0 + 0 ≤ _), (by decide : 0 + 0 ≤ _)⟩)
  dsimp only [Pt.U, Pt.locs, Pt.cells, Pt.slots] at X18 l18 y18 z18 st18 hQ18
  subst l18 y18 z18
  obtain ⟨rfl, Nq18, hs18⟩ := hQ18
  have N18 := Fr.app N11 Nq18
  refine Comes.st st18 ?_
  show Comes p e below _ (T18.setTop (mkF m 14 #[.val (.ref xa), .val (.double mn), .second, .val (.int (2 : Int32))] [(.int (1 : Int32))]))
  have hc14_19 : ¬ ((1 : Int32) = (0 : Int32)) := by decide
  refine Comes.st (fun t k => XS.ifNo X18.here hx rfl (hb hby d26_14) rfl ((if0 _ _).trans (feq hc14_19).1) (XS.aloadN X18.here hx rfl (hb hby d26_17) rfl rfl (XS.iloadN X18.here hx rfl (hb hby d26_18) rfl k))) ?_
  show Comes p e below _ (T18.setTop (mkF m 19 #[.val (.ref xa), .val (.double mn), .second, .val (.int (2 : Int32))] [(.int (2 : Int32)), (.ref xa)]))
  obtain ⟨cl20, Ar20, q20, S20, Ng20, H20, Gf20⟩ := id G0
  have hin20 : ¬ ((2 : Int32) < 0 ∨ cl20.slots.size ≤ ((2 : Int32)).toNatClampNeg) := inb_of S20 ⟨by decide, by decide⟩
  refine Comes.st (fun t k => X18.daload hx (j := (2 : Int32)) (v := (.double (0 : UInt64))) (by rw [hs18]; exact Ar20.1) (State.isArrayOf_alike hZ.alike Ar20.2.1) Ar20.2.2 hin20 (Has.at H20 hin20 rfl) (g := (mkF m 19 #[.val (.ref xa), .val (.double mn), .second, .val (.int (2 : Int32))] [(.int (2 : Int32)), (.ref xa)])) rfl rfl (hb hby d26_19) _ (XS.dloadN X18.here hx rfl (hb hby d26_20) rfl k)) ?_
  show Comes p e below _ (T18.setTop (mkF m 21 #[.val (.ref xa), .val (.double mn), .second, .val (.int (2 : Int32))] [(.double mn), (.double (0 : UInt64))]))
  refine Comes.st (fun t k => XS.dcmpS X18.here hx rfl (hb hby d26_21) (v := cm) rfl G1 k) ?_
  show Comes p e below _ (T18.setTop (mkF m 22 #[.val (.ref xa), .val (.double mn), .second, .val (.int (2 : Int32))] [(.int cm)]))
  have hc22_21 : ¬ (cm < (0 : Int32)) := by assumption
  refine Comes.st (fun t k => XS.ifYes X18.here hx rfl (pc0 := 22) (pc' := 27) rfl (hb hby d26_22) rfl ((if0 _ _).trans (flt hc22_21).2.1) (by decide) (by decide) (XS.iinc X18.here hx rfl (hb hby d26_27) rfl (l' := #[.val (.ref xa), .val (.double mn), .second, .val (.int (3 : Int32))]) rfl (XS.goto X18.here hx rfl (pc0 := 30) (pc' := 2) rfl (hb hby d26_30) (by decide) (by decide) (XS.iloadN X18.here hx rfl (hb hby d26_2) rfl (XS.aloadN X18.here hx rfl (hb hby d26_3) rfl rfl k))))) ?_
  show Comes p e below _ (T18.setTop (mkF m 4 #[.val (.ref xa), .val (.double mn), .second, .val (.int (3 : Int32))] [(.ref xa), (.int (3 : Int32))]))
  obtain ⟨cl22, Ar22, -, S22, Ng22, -, -⟩ := id G0
  refine Comes.st (fun t k => X18.arraylength hx (by rw [hs18]; exact Ar22.1) (State.isArrayOf_alike hZ.alike Ar22.2.1) (g := (mkF m 4 #[.val (.ref xa), .val (.double mn), .second, .val (.int (3 : Int32))] [(.ref xa), (.int (3 : Int32))])) rfl rfl (hb hby d26_4) _ k) ?_
  rw [len_of S22 Ng22]
  show Comes p e below _ (T18.setTop (mkF m 5 #[.val (.ref xa), .val (.double mn), .second, .val (.int (3 : Int32))] [(.int (7 : Int32)), (.int (3 : Int32))]))
  have hc5_23 : (3 : Int32) < (7 : Int32) := by decide
  refine Comes.st (fun t k => XS.icmpNo X18.here hx rfl (hb hby d26_5) rfl (tlt hc5_23).2.1 (XS.aloadN X18.here hx rfl (hb hby d26_8) rfl rfl (XS.iloadN X18.here hx rfl (hb hby d26_9) rfl k))) ?_
  show Comes p e below _ (T18.setTop (mkF m 10 #[.val (.ref xa), .val (.double mn), .second, .val (.int (3 : Int32))] [(.int (3 : Int32)), (.ref xa)]))
  obtain ⟨cl24, Ar24, q24, S24, Ng24, H24, Gf24⟩ := id G0
  have hin24 : ¬ ((3 : Int32) < 0 ∨ cl24.slots.size ≤ ((3 : Int32)).toNatClampNeg) := inb_of S24 ⟨by decide, by decide⟩
  refine Comes.st (fun t k => X18.daload hx (j := (3 : Int32)) (v := (.double (0 : UInt64))) (by rw [hs18]; exact Ar24.1) (State.isArrayOf_alike hZ.alike Ar24.2.1) Ar24.2.2 hin24 (Has.at H24 hin24 rfl) (g := (mkF m 10 #[.val (.ref xa), .val (.double mn), .second, .val (.int (3 : Int32))] [(.int (3 : Int32)), (.ref xa)])) rfl rfl (hb hby d26_10) _ k) ?_
  show Comes p e below _ (T18.setTop (mkF m 11 #[.val (.ref xa), .val (.double mn), .second, .val (.int (3 : Int32))] [(.double (0 : UInt64))]))
  obtain ⟨_, _, ⟨T25, L25, k25, n25⟩, -, X25, ⟨Lc25, hQ25, l25, y25, z25⟩, st25⟩ := Jvm.LawKit.callS X18 hx (y := (⟨"java/lang/Double", "isFinite", "(D)Z"⟩ : MethodName)) hown (mvT hZ (W hw 178)) (mvT hZ (W hw 179)) (mvT hZ (W hw 180)) (mvT hZ (W hw 181)) (by decide) (backOf (W := 0) (rm28 l Z a0 hw []  h0 n0 (by omega)  ) hZ (W hw 181) (W hw 180) (by decide) (by decide)) (g := (mkF m 11 #[.val (.ref xa), .val (.double mn), .second, .val (.int (3 : Int32))] [(.double (0 : UInt64))])) rfl (by rw [hml]; rfl) (argsL := [(.double (0 : UInt64))]) (rest := []) (lenOf pd_15 rfl) rfl (by show 2 * 0 + _ ≤ _; exact Nat.le_of_eq rfl) (hb hby d26_11) (fun _ _ => ⟨rfl, hs18, (by decide : 0 + 0 ≤ _), (by decide : 0 + 0 ≤ _)⟩)
  dsimp only [Pt.U, Pt.locs, Pt.cells, Pt.slots] at X25 l25 y25 z25 st25 hQ25
  subst l25 y25 z25
  obtain ⟨rfl, Nq25, hs25⟩ := hQ25
  have N25 := Fr.app N18 Nq25
  refine Comes.st st25 ?_
  show Comes p e below _ (T25.setTop (mkF m 14 #[.val (.ref xa), .val (.double mn), .second, .val (.int (3 : Int32))] [(.int (1 : Int32))]))
  have hc14_26 : ¬ ((1 : Int32) = (0 : Int32)) := by decide
  refine Comes.st (fun t k => XS.ifNo X25.here hx rfl (hb hby d26_14) rfl ((if0 _ _).trans (feq hc14_26).1) (XS.aloadN X25.here hx rfl (hb hby d26_17) rfl rfl (XS.iloadN X25.here hx rfl (hb hby d26_18) rfl k))) ?_
  show Comes p e below _ (T25.setTop (mkF m 19 #[.val (.ref xa), .val (.double mn), .second, .val (.int (3 : Int32))] [(.int (3 : Int32)), (.ref xa)]))
  obtain ⟨cl27, Ar27, q27, S27, Ng27, H27, Gf27⟩ := id G0
  have hin27 : ¬ ((3 : Int32) < 0 ∨ cl27.slots.size ≤ ((3 : Int32)).toNatClampNeg) := inb_of S27 ⟨by decide, by decide⟩
  refine Comes.st (fun t k => X25.daload hx (j := (3 : Int32)) (v := (.double (0 : UInt64))) (by rw [hs25]; exact Ar27.1) (State.isArrayOf_alike hZ.alike Ar27.2.1) Ar27.2.2 hin27 (Has.at H27 hin27 rfl) (g := (mkF m 19 #[.val (.ref xa), .val (.double mn), .second, .val (.int (3 : Int32))] [(.int (3 : Int32)), (.ref xa)])) rfl rfl (hb hby d26_19) _ (XS.dloadN X25.here hx rfl (hb hby d26_20) rfl k)) ?_
  show Comes p e below _ (T25.setTop (mkF m 21 #[.val (.ref xa), .val (.double mn), .second, .val (.int (3 : Int32))] [(.double mn), (.double (0 : UInt64))]))
  refine Comes.st (fun t k => XS.dcmpS X25.here hx rfl (hb hby d26_21) (v := cm) rfl G1 k) ?_
  show Comes p e below _ (T25.setTop (mkF m 22 #[.val (.ref xa), .val (.double mn), .second, .val (.int (3 : Int32))] [(.int cm)]))
  have hc22_28 : ¬ (cm < (0 : Int32)) := by assumption
  refine Comes.st (fun t k => XS.ifYes X25.here hx rfl (pc0 := 22) (pc' := 27) rfl (hb hby d26_22) rfl ((if0 _ _).trans (flt hc22_28).2.1) (by decide) (by decide) (XS.iinc X25.here hx rfl (hb hby d26_27) rfl (l' := #[.val (.ref xa), .val (.double mn), .second, .val (.int (4 : Int32))]) rfl (XS.goto X25.here hx rfl (pc0 := 30) (pc' := 2) rfl (hb hby d26_30) (by decide) (by decide) (XS.iloadN X25.here hx rfl (hb hby d26_2) rfl (XS.aloadN X25.here hx rfl (hb hby d26_3) rfl rfl k))))) ?_
  show Comes p e below _ (T25.setTop (mkF m 4 #[.val (.ref xa), .val (.double mn), .second, .val (.int (4 : Int32))] [(.ref xa), (.int (4 : Int32))]))
  obtain ⟨cl29, Ar29, -, S29, Ng29, -, -⟩ := id G0
  refine Comes.st (fun t k => X25.arraylength hx (by rw [hs25]; exact Ar29.1) (State.isArrayOf_alike hZ.alike Ar29.2.1) (g := (mkF m 4 #[.val (.ref xa), .val (.double mn), .second, .val (.int (4 : Int32))] [(.ref xa), (.int (4 : Int32))])) rfl rfl (hb hby d26_4) _ k) ?_
  rw [len_of S29 Ng29]
  show Comes p e below _ (T25.setTop (mkF m 5 #[.val (.ref xa), .val (.double mn), .second, .val (.int (4 : Int32))] [(.int (7 : Int32)), (.int (4 : Int32))]))
  have hc5_30 : (4 : Int32) < (7 : Int32) := by decide
  refine Comes.st (fun t k => XS.icmpNo X25.here hx rfl (hb hby d26_5) rfl (tlt hc5_30).2.1 (XS.aloadN X25.here hx rfl (hb hby d26_8) rfl rfl (XS.iloadN X25.here hx rfl (hb hby d26_9) rfl k))) ?_
  show Comes p e below _ (T25.setTop (mkF m 10 #[.val (.ref xa), .val (.double mn), .second, .val (.int (4 : Int32))] [(.int (4 : Int32)), (.ref xa)]))
  obtain ⟨cl31, Ar31, q31, S31, Ng31, H31, Gf31⟩ := id G0
  have hin31 : ¬ ((4 : Int32) < 0 ∨ cl31.slots.size ≤ ((4 : Int32)).toNatClampNeg) := inb_of S31 ⟨by decide, by decide⟩
  refine Comes.st (fun t k => X25.daload hx (j := (4 : Int32)) (v := (.double (0 : UInt64))) (by rw [hs25]; exact Ar31.1) (State.isArrayOf_alike hZ.alike Ar31.2.1) Ar31.2.2 hin31 (Has.at H31 hin31 rfl) (g := (mkF m 10 #[.val (.ref xa), .val (.double mn), .second, .val (.int (4 : Int32))] [(.int (4 : Int32)), (.ref xa)])) rfl rfl (hb hby d26_10) _ k) ?_
  show Comes p e below _ (T25.setTop (mkF m 11 #[.val (.ref xa), .val (.double mn), .second, .val (.int (4 : Int32))] [(.double (0 : UInt64))]))
  obtain ⟨_, _, ⟨T32, L32, k32, n32⟩, -, X32, ⟨Lc32, hQ32, l32, y32, z32⟩, st32⟩ := Jvm.LawKit.callS X25 hx (y := (⟨"java/lang/Double", "isFinite", "(D)Z"⟩ : MethodName)) hown (mvT hZ (W hw 178)) (mvT hZ (W hw 179)) (mvT hZ (W hw 180)) (mvT hZ (W hw 181)) (by decide) (backOf (W := 0) (rm28 l Z a0 hw []  h0 n0 (by omega)  ) hZ (W hw 181) (W hw 180) (by decide) (by decide)) (g := (mkF m 11 #[.val (.ref xa), .val (.double mn), .second, .val (.int (4 : Int32))] [(.double (0 : UInt64))])) rfl (by rw [hml]; rfl) (argsL := [(.double (0 : UInt64))]) (rest := []) (lenOf pd_15 rfl) rfl (by show 2 * 0 + _ ≤ _; exact Nat.le_of_eq rfl) (hb hby d26_11) (fun _ _ => ⟨rfl, hs25, (by decide : 0 + 0 ≤ _), (by decide : 0 + 0 ≤ _)⟩)
  dsimp only [Pt.U, Pt.locs, Pt.cells, Pt.slots] at X32 l32 y32 z32 st32 hQ32
  subst l32 y32 z32
  obtain ⟨rfl, Nq32, hs32⟩ := hQ32
  have N32 := Fr.app N25 Nq32
  refine Comes.st st32 ?_
  show Comes p e below _ (T32.setTop (mkF m 14 #[.val (.ref xa), .val (.double mn), .second, .val (.int (4 : Int32))] [(.int (1 : Int32))]))
  have hc14_33 : ¬ ((1 : Int32) = (0 : Int32)) := by decide
  refine Comes.st (fun t k => XS.ifNo X32.here hx rfl (hb hby d26_14) rfl ((if0 _ _).trans (feq hc14_33).1) (XS.aloadN X32.here hx rfl (hb hby d26_17) rfl rfl (XS.iloadN X32.here hx rfl (hb hby d26_18) rfl k))) ?_
  show Comes p e below _ (T32.setTop (mkF m 19 #[.val (.ref xa), .val (.double mn), .second, .val (.int (4 : Int32))] [(.int (4 : Int32)), (.ref xa)]))
  obtain ⟨cl34, Ar34, q34, S34, Ng34, H34, Gf34⟩ := id G0
  have hin34 : ¬ ((4 : Int32) < 0 ∨ cl34.slots.size ≤ ((4 : Int32)).toNatClampNeg) := inb_of S34 ⟨by decide, by decide⟩
  refine Comes.st (fun t k => X32.daload hx (j := (4 : Int32)) (v := (.double (0 : UInt64))) (by rw [hs32]; exact Ar34.1) (State.isArrayOf_alike hZ.alike Ar34.2.1) Ar34.2.2 hin34 (Has.at H34 hin34 rfl) (g := (mkF m 19 #[.val (.ref xa), .val (.double mn), .second, .val (.int (4 : Int32))] [(.int (4 : Int32)), (.ref xa)])) rfl rfl (hb hby d26_19) _ (XS.dloadN X32.here hx rfl (hb hby d26_20) rfl k)) ?_
  show Comes p e below _ (T32.setTop (mkF m 21 #[.val (.ref xa), .val (.double mn), .second, .val (.int (4 : Int32))] [(.double mn), (.double (0 : UInt64))]))
  refine Comes.st (fun t k => XS.dcmpS X32.here hx rfl (hb hby d26_21) (v := cm) rfl G1 k) ?_
  show Comes p e below _ (T32.setTop (mkF m 22 #[.val (.ref xa), .val (.double mn), .second, .val (.int (4 : Int32))] [(.int cm)]))
  have hc22_35 : ¬ (cm < (0 : Int32)) := by assumption
  refine Comes.st (fun t k => XS.ifYes X32.here hx rfl (pc0 := 22) (pc' := 27) rfl (hb hby d26_22) rfl ((if0 _ _).trans (flt hc22_35).2.1) (by decide) (by decide) (XS.iinc X32.here hx rfl (hb hby d26_27) rfl (l' := #[.val (.ref xa), .val (.double mn), .second, .val (.int (5 : Int32))]) rfl (XS.goto X32.here hx rfl (pc0 := 30) (pc' := 2) rfl (hb hby d26_30) (by decide) (by decide) (XS.iloadN X32.here hx rfl (hb hby d26_2) rfl (XS.aloadN X32.here hx rfl (hb hby d26_3) rfl rfl k))))) ?_
  show Comes p e below _ (T32.setTop (mkF m 4 #[.val (.ref xa), .val (.double mn), .second, .val (.int (5 : Int32))] [(.ref xa), (.int (5 : Int32))]))
  obtain ⟨cl36, Ar36, -, S36, Ng36, -, -⟩ := id G0
  refine Comes.st (fun t k => X32.arraylength hx (by rw [hs32]; exact Ar36.1) (State.isArrayOf_alike hZ.alike Ar36.2.1) (g := (mkF m 4 #[.val (.ref xa), .val (.double mn), .second, .val (.int (5 : Int32))] [(.ref xa), (.int (5 : Int32))])) rfl rfl (hb hby d26_4) _ k) ?_
  rw [len_of S36 Ng36]
  show Comes p e below _ (T32.setTop (mkF m 5 #[.val (.ref xa), .val (.double mn), .second, .val (.int (5 : Int32))] [(.int (7 : Int32)), (.int (5 : Int32))]))
  have hc5_37 : (5 : Int32) < (7 : Int32) := by decide
  refine Comes.st (fun t k => XS.icmpNo X32.here hx rfl (hb hby d26_5) rfl (tlt hc5_37).2.1 (XS.aloadN X32.here hx rfl (hb hby d26_8) rfl rfl (XS.iloadN X32.here hx rfl (hb hby d26_9) rfl k))) ?_
  show Comes p e below _ (T32.setTop (mkF m 10 #[.val (.ref xa), .val (.double mn), .second, .val (.int (5 : Int32))] [(.int (5 : Int32)), (.ref xa)]))
  obtain ⟨cl38, Ar38, q38, S38, Ng38, H38, Gf38⟩ := id G0
  have hin38 : ¬ ((5 : Int32) < 0 ∨ cl38.slots.size ≤ ((5 : Int32)).toNatClampNeg) := inb_of S38 ⟨by decide, by decide⟩
  refine Comes.st (fun t k => X32.daload hx (j := (5 : Int32)) (v := (.double (0 : UInt64))) (by rw [hs32]; exact Ar38.1) (State.isArrayOf_alike hZ.alike Ar38.2.1) Ar38.2.2 hin38 (Has.at H38 hin38 rfl) (g := (mkF m 10 #[.val (.ref xa), .val (.double mn), .second, .val (.int (5 : Int32))] [(.int (5 : Int32)), (.ref xa)])) rfl rfl (hb hby d26_10) _ k) ?_
  show Comes p e below _ (T32.setTop (mkF m 11 #[.val (.ref xa), .val (.double mn), .second, .val (.int (5 : Int32))] [(.double (0 : UInt64))]))
  obtain ⟨_, _, ⟨T39, L39, k39, n39⟩, -, X39, ⟨Lc39, hQ39, l39, y39, z39⟩, st39⟩ := Jvm.LawKit.callS X32 hx (y := (⟨"java/lang/Double", "isFinite", "(D)Z"⟩ : MethodName)) hown (mvT hZ (W hw 178)) (mvT hZ (W hw 179)) (mvT hZ (W hw 180)) (mvT hZ (W hw 181)) (by decide) (backOf (W := 0) (rm28 l Z a0 hw []  h0 n0 (by omega)  ) hZ (W hw 181) (W hw 180) (by decide) (by decide)) (g := (mkF m 11 #[.val (.ref xa), .val (.double mn), .second, .val (.int (5 : Int32))] [(.double (0 : UInt64))])) rfl (by rw [hml]; rfl) (argsL := [(.double (0 : UInt64))]) (rest := []) (lenOf pd_15 rfl) rfl (by show 2 * 0 + _ ≤ _; exact Nat.le_of_eq rfl) (hb hby d26_11) (fun _ _ => ⟨rfl, hs32, (by decide : 0 + 0 ≤ _), (by decide : 0 + 0 ≤ _)⟩)
  dsimp only [Pt.U, Pt.locs, Pt.cells, Pt.slots] at X39 l39 y39 z39 st39 hQ39
  subst l39 y39 z39
  obtain ⟨rfl, Nq39, hs39⟩ := hQ39
  have N39 := Fr.app N32 Nq39
  refine Comes.st st39 ?_
  show Comes p e below _ (T39.setTop (mkF m 14 #[.val (.ref xa), .val (.double mn), .second, .val (.int (5 : Int32))] [(.int (1 : Int32))]))
  have hc14_40 : ¬ ((1 : Int32) = (0 : Int32)) := by decide
  refine Comes.st (fun t k => XS.ifNo X39.here hx rfl (hb hby d26_14) rfl ((if0 _ _).trans (feq hc14_40).1) (XS.aloadN X39.here hx rfl (hb hby d26_17) rfl rfl (XS.iloadN X39.here hx rfl (hb hby d26_18) rfl k))) ?_
  show Comes p e below _ (T39.setTop (mkF m 19 #[.val (.ref xa), .val (.double mn), .second, .val (.int (5 : Int32))] [(.int (5 : Int32)), (.ref xa)]))
  obtain ⟨cl41, Ar41, q41, S41, Ng41, H41, Gf41⟩ := id G0
  have hin41 : ¬ ((5 : Int32) < 0 ∨ cl41.slots.size ≤ ((5 : Int32)).toNatClampNeg) := inb_of S41 ⟨by decide, by decide⟩
  refine Comes.st (fun t k => X39.daload hx (j := (5 : Int32)) (v := (.double (0 : UInt64))) (by rw [hs39]; exact Ar41.1) (State.isArrayOf_alike hZ.alike Ar41.2.1) Ar41.2.2 hin41 (Has.at H41 hin41 rfl) (g := (mkF m 19 #[.val (.ref xa), .val (.double mn), .second, .val (.int (5 : Int32))] [(.int (5 : Int32)), (.ref xa)])) rfl rfl (hb hby d26_19) _ (XS.dloadN X39.here hx rfl (hb hby d26_20) rfl k)) ?_
  show Comes p e below _ (T39.setTop (mkF m 21 #[.val (.ref xa), .val (.double mn), .second, .val (.int (5 : Int32))] [(.double mn), (.double (0 : UInt64))]))
  refine Comes.st (fun t k => XS.dcmpS X39.here hx rfl (hb hby d26_21) (v := cm) rfl G1 k) ?_
  show Comes p e below _ (T39.setTop (mkF m 22 #[.val (.ref xa), .val (.double mn), .second, .val (.int (5 : Int32))] [(.int cm)]))
  have hc22_42 : ¬ (cm < (0 : Int32)) := by assumption
  refine Comes.st (fun t k => XS.ifYes X39.here hx rfl (pc0 := 22) (pc' := 27) rfl (hb hby d26_22) rfl ((if0 _ _).trans (flt hc22_42).2.1) (by decide) (by decide) (XS.iinc X39.here hx rfl (hb hby d26_27) rfl (l' := #[.val (.ref xa), .val (.double mn), .second, .val (.int (6 : Int32))]) rfl (XS.goto X39.here hx rfl (pc0 := 30) (pc' := 2) rfl (hb hby d26_30) (by decide) (by decide) (XS.iloadN X39.here hx rfl (hb hby d26_2) rfl (XS.aloadN X39.here hx rfl (hb hby d26_3) rfl rfl k))))) ?_
  show Comes p e below _ (T39.setTop (mkF m 4 #[.val (.ref xa), .val (.double mn), .second, .val (.int (6 : Int32))] [(.ref xa), (.int (6 : Int32))]))
  obtain ⟨cl43, Ar43, -, S43, Ng43, -, -⟩ := id G0
  refine Comes.st (fun t k => X39.arraylength hx (by rw [hs39]; exact Ar43.1) (State.isArrayOf_alike hZ.alike Ar43.2.1) (g := (mkF m 4 #[.val (.ref xa), .val (.double mn), .second, .val (.int (6 : Int32))] [(.ref xa), (.int (6 : Int32))])) rfl rfl (hb hby d26_4) _ k) ?_
  rw [len_of S43 Ng43]
  show Comes p e below _ (T39.setTop (mkF m 5 #[.val (.ref xa), .val (.double mn), .second, .val (.int (6 : Int32))] [(.int (7 : Int32)), (.int (6 : Int32))]))
  have hc5_44 : (6 : Int32) < (7 : Int32) := by decide
  refine Comes.st (fun t k => XS.icmpNo X39.here hx rfl (hb hby d26_5) rfl (tlt hc5_44).2.1 (XS.aloadN X39.here hx rfl (hb hby d26_8) rfl rfl (XS.iloadN X39.here hx rfl (hb hby d26_9) rfl k))) ?_
  show Comes p e below _ (T39.setTop (mkF m 10 #[.val (.ref xa), .val (.double mn), .second, .val (.int (6 : Int32))] [(.int (6 : Int32)), (.ref xa)]))
  obtain ⟨cl45, Ar45, q45, S45, Ng45, H45, Gf45⟩ := id G0
  have hin45 : ¬ ((6 : Int32) < 0 ∨ cl45.slots.size ≤ ((6 : Int32)).toNatClampNeg) := inb_of S45 ⟨by decide, by decide⟩
  refine Comes.st (fun t k => X39.daload hx (j := (6 : Int32)) (v := (.double (0 : UInt64))) (by rw [hs39]; exact Ar45.1) (State.isArrayOf_alike hZ.alike Ar45.2.1) Ar45.2.2 hin45 (Has.at H45 hin45 rfl) (g := (mkF m 10 #[.val (.ref xa), .val (.double mn), .second, .val (.int (6 : Int32))] [(.int (6 : Int32)), (.ref xa)])) rfl rfl (hb hby d26_10) _ k) ?_
  show Comes p e below _ (T39.setTop (mkF m 11 #[.val (.ref xa), .val (.double mn), .second, .val (.int (6 : Int32))] [(.double (0 : UInt64))]))
  obtain ⟨_, _, ⟨T46, L46, k46, n46⟩, -, X46, ⟨Lc46, hQ46, l46, y46, z46⟩, st46⟩ := Jvm.LawKit.callS X39 hx (y := (⟨"java/lang/Double", "isFinite", "(D)Z"⟩ : MethodName)) hown (mvT hZ (W hw 178)) (mvT hZ (W hw 179)) (mvT hZ (W hw 180)) (mvT hZ (W hw 181)) (by decide) (backOf (W := 0) (rm28 l Z a0 hw []  h0 n0 (by omega)  ) hZ (W hw 181) (W hw 180) (by decide) (by decide)) (g := (mkF m 11 #[.val (.ref xa), .val (.double mn), .second, .val (.int (6 : Int32))] [(.double (0 : UInt64))])) rfl (by rw [hml]; rfl) (argsL := [(.double (0 : UInt64))]) (rest := []) (lenOf pd_15 rfl) rfl (by show 2 * 0 + _ ≤ _; exact Nat.le_of_eq rfl) (hb hby d26_11) (fun _ _ => ⟨rfl, hs39, (by decide : 0 + 0 ≤ _), (by decide : 0 + 0 ≤ _)⟩)
  dsimp only [Pt.U, Pt.locs, Pt.cells, Pt.slots] at X46 l46 y46 z46 st46 hQ46
  subst l46 y46 z46
  obtain ⟨rfl, Nq46, hs46⟩ := hQ46
  have N46 := Fr.app N39 Nq46
  refine Comes.st st46 ?_
  show Comes p e below _ (T46.setTop (mkF m 14 #[.val (.ref xa), .val (.double mn), .second, .val (.int (6 : Int32))] [(.int (1 : Int32))]))
  have hc14_47 : ¬ ((1 : Int32) = (0 : Int32)) := by decide
  refine Comes.st (fun t k => XS.ifNo X46.here hx rfl (hb hby d26_14) rfl ((if0 _ _).trans (feq hc14_47).1) (XS.aloadN X46.here hx rfl (hb hby d26_17) rfl rfl (XS.iloadN X46.here hx rfl (hb hby d26_18) rfl k))) ?_
  show Comes p e below _ (T46.setTop (mkF m 19 #[.val (.ref xa), .val (.double mn), .second, .val (.int (6 : Int32))] [(.int (6 : Int32)), (.ref xa)]))
  obtain ⟨cl48, Ar48, q48, S48, Ng48, H48, Gf48⟩ := id G0
  have hin48 : ¬ ((6 : Int32) < 0 ∨ cl48.slots.size ≤ ((6 : Int32)).toNatClampNeg) := inb_of S48 ⟨by decide, by decide⟩
  refine Comes.st (fun t k => X46.daload hx (j := (6 : Int32)) (v := (.double (0 : UInt64))) (by rw [hs46]; exact Ar48.1) (State.isArrayOf_alike hZ.alike Ar48.2.1) Ar48.2.2 hin48 (Has.at H48 hin48 rfl) (g := (mkF m 19 #[.val (.ref xa), .val (.double mn), .second, .val (.int (6 : Int32))] [(.int (6 : Int32)), (.ref xa)])) rfl rfl (hb hby d26_19) _ (XS.dloadN X46.here hx rfl (hb hby d26_20) rfl k)) ?_
  show Comes p e below _ (T46.setTop (mkF m 21 #[.val (.ref xa), .val (.double mn), .second, .val (.int (6 : Int32))] [(.double mn), (.double (0 : UInt64))]))
  refine Comes.st (fun t k => XS.dcmpS X46.here hx rfl (hb hby d26_21) (v := cm) rfl G1 k) ?_
  show Comes p e below _ (T46.setTop (mkF m 22 #[.val (.ref xa), .val (.double mn), .second, .val (.int (6 : Int32))] [(.int cm)]))
  have hc22_49 : ¬ (cm < (0 : Int32)) := by assumption
  refine Comes.st (fun t k => XS.ifYes X46.here hx rfl (pc0 := 22) (pc' := 27) rfl (hb hby d26_22) rfl ((if0 _ _).trans (flt hc22_49).2.1) (by decide) (by decide) (XS.iinc X46.here hx rfl (hb hby d26_27) rfl (l' := #[.val (.ref xa), .val (.double mn), .second, .val (.int (7 : Int32))]) rfl (XS.goto X46.here hx rfl (pc0 := 30) (pc' := 2) rfl (hb hby d26_30) (by decide) (by decide) (XS.iloadN X46.here hx rfl (hb hby d26_2) rfl (XS.aloadN X46.here hx rfl (hb hby d26_3) rfl rfl k))))) ?_
  show Comes p e below _ (T46.setTop (mkF m 4 #[.val (.ref xa), .val (.double mn), .second, .val (.int (7 : Int32))] [(.ref xa), (.int (7 : Int32))]))
  obtain ⟨cl50, Ar50, -, S50, Ng50, -, -⟩ := id G0
  refine Comes.st (fun t k => X46.arraylength hx (by rw [hs46]; exact Ar50.1) (State.isArrayOf_alike hZ.alike Ar50.2.1) (g := (mkF m 4 #[.val (.ref xa), .val (.double mn), .second, .val (.int (7 : Int32))] [(.ref xa), (.int (7 : Int32))])) rfl rfl (hb hby d26_4) _ k) ?_
  rw [len_of S50 Ng50]
  show Comes p e below _ (T46.setTop (mkF m 5 #[.val (.ref xa), .val (.double mn), .second, .val (.int (7 : Int32))] [(.int (7 : Int32)), (.int (7 : Int32))]))
  have hc5_51 : ¬ ((7 : Int32) < (7 : Int32)) := by decide
  refine Comes.st (fun t k => XS.icmpYes X46.here hx rfl (pc0 := 5) (pc' := 33) rfl (hb hby d26_5) rfl (flt hc5_51).2.1 (by decide) (by decide) (XS.iconst X46.here hx rfl (hb hby d26_33) k)) ?_
  show Comes p e below _ (T46.setTop (mkF m 34 #[.val (.ref xa), .val (.double mn), .second, .val (.int (7 : Int32))] [(.int (-1 : Int32))]))
  exact Comes.retV X46 hx Bd.returns rfl (Or.inl ⟨rfl, Or.inl rfl, _, rfl⟩) hlk (hb hby d26_34) hs46 ⟨rfl, N46, rfl⟩ (by decide) (by decide)
def Q_fb0 (Z : State) (xa : Nat) (mn : UInt64) (ka : ClassId) (cm : Int32) (h0 : Heap) (n0 : Nat) (v_ : Option Value) (h : Heap) (L_ : List Loc) : Prop := (v_ = some (.int (-1 : Int32))) ∧ (Fr n0 L_) ∧ (h = h0)
theorem fb0 (l : Launch) (Z : State) (a0 : Array Value) (hw : ∀ d ∈ tables_1, d.before a0 Z = true) (ws : List Jvm.Cond) (xa : Nat) (mn : UInt64) (ka : ClassId) (cm : Int32) (h0 : Heap) (n0 : Nat) (Z0 : n0 ≤ h0.size) (G0 : Arv Z h0 xa ka .double (0 : Int32) [] (.double (0 : UInt64))) (G1 : cmpValue (FP.dcmp (0 : UInt64) mn) .g = cm) (G2 : ¬ (cm < (0 : Int32))) :
    MetFree l (⟨"com/example/ordr/ordr/model/Layout", "firstBelow", "([DD)I"⟩ : MethodName) (head1 (Jvm.Cond.code (⟨"com/example/ordr/ordr/model/Layout", "firstBelow", "([DD)I"⟩ : MethodName) prog_86_method_18_code 4 (some .int) :: ws) (Rm 2 0 0 26)) (fun a_ U_ => a_ = #[(.ref xa), (.double mn)] ∧ Z.Warmed39 U_.vm ∧ U_.heap = h0) (fun _ _ _ _ _ => True) (fun _ U_ o_ V_ => ∃ v_ L_, o_ = .returned v_ ∧ Q_fb0 Z xa mn ka cm h0 n0 v_ V_.heap L_ ∧ FrameEnd U_ o_ V_ L_ (Rm 2 0 0 26).cells (Rm 2 0 0 26).slots) := by
  refine MetFree.of_bodySF (plainFor_of_name pn_26) hisR ?_
  intro p e s m args below meth c s₁ Bd hml0 hP hK
  obtain ⟨rfl, hZ, hh⟩ := hP
  have hx := Bd.exec
  have hby := Bd.bytes
  have hml : c.maxLocals = 4 := hml0
  have hown : s.vm.findClass "com/example/ordr/ordr/model/Layout" = some m.cls := findClass_of_methodNamed Bd.named
  have hnm := (name_of_methodNamed Bd.named Bd.method).1
  have hlk : meth.locks = false := Bd.notSynchronized
  have X0 : Stand p l e (Rm 2 0 0 26) s m #[(.ref xa), (.double mn)] below meth c s₁ [] 0 0 := Stand.of_body Bd
  have e0 : s₁.heap = h0 := by rw [← hh, Bd.state]; rfl
  have N0 := Fr.nil n0
  refine Comes.out (Q := Q_fb0 Z xa mn ka cm h0 n0) (kc := (Rm 2 0 0 26).cells) (ks := (Rm 2 0 0 26).slots) ?_
  refine Comes.cast (ef_fb0 m xa mn) ?_
  have lt_xa : xa < h0.size := G0.lt
  show Comes p e below _ (s₁.setTop (mkF m 0 #[.val (.ref xa), .val (.double mn), .second, .unset] []))
  refine Comes.st (fun t k => XS.iconst X0.here hx rfl (hb hby d26_0) (XS.istoreN X0.here hx rfl (hb hby d26_1) rfl (l' := #[.val (.ref xa), .val (.double mn), .second, .val (.int (0 : Int32))]) rfl (XS.iloadN X0.here hx rfl (hb hby d26_2) rfl (XS.aloadN X0.here hx rfl (hb hby d26_3) rfl rfl k)))) ?_
  show Comes p e below _ (s₁.setTop (mkF m 4 #[.val (.ref xa), .val (.double mn), .second, .val (.int (0 : Int32))] [(.ref xa), (.int (0 : Int32))]))
  obtain ⟨cl1, Ar1, -, S1, Ng1, -, -⟩ := id G0
  refine Comes.st (fun t k => X0.arraylength hx (by rw [e0]; exact Ar1.1) (State.isArrayOf_alike hZ.alike Ar1.2.1) (g := (mkF m 4 #[.val (.ref xa), .val (.double mn), .second, .val (.int (0 : Int32))] [(.ref xa), (.int (0 : Int32))])) rfl rfl (hb hby d26_4) _ k) ?_
  rw [len_of S1 Ng1]
  show Comes p e below _ (s₁.setTop (mkF m 5 #[.val (.ref xa), .val (.double mn), .second, .val (.int (0 : Int32))] [(.int (0 : Int32)), (.int (0 : Int32))]))
  have hc5_2 : ¬ ((0 : Int32) < (0 : Int32)) := by decide
  refine Comes.st (fun t k => XS.icmpYes X0.here hx rfl (pc0 := 5) (pc' := 33) rfl (hb hby d26_5) rfl (flt hc5_2).2.1 (by decide) (by decide) (XS.iconst X0.here hx rfl (hb hby d26_33) k)) ?_
  show Comes p e below _ (s₁.setTop (mkF m 34 #[.val (.ref xa), .val (.double mn), .second, .val (.int (0 : Int32))] [(.int (-1 : Int32))]))
  exact Comes.retV X0 hx Bd.returns rfl (Or.inl ⟨rfl, Or.inl rfl, _, rfl⟩) hlk (hb hby d26_34) e0 ⟨rfl, N0, rfl⟩ (by decide) (by decide)
def Q_fbG (Z : State) (xa : Nat) (mn : UInt64) (ka : ClassId) (cm n : Int32) (h0 : Heap) (n0 : Nat) (v_ : Option Value) (h : Heap) (L_ : List Loc) : Prop := (v_ = some (.int (-1 : Int32))) ∧ (Fr n0 L_) ∧ (h = h0)
theorem fbG (l : Launch) (Z : State) (a0 : Array Value) (hw : ∀ d ∈ tables_1, d.before a0 Z = true) (ws : List Jvm.Cond) (xa : Nat) (mn : UInt64) (ka : ClassId) (cm n : Int32) (h0 : Heap) (n0 : Nat) (Z0 : n0 ≤ h0.size) (G0 : Arv Z h0 xa ka .double n [] (.double (0 : UInt64))) (G1 : cmpValue (FP.dcmp (0 : UInt64) mn) .g = cm) (G2 : ¬ (cm < (0 : Int32))) (G3 : 0 ≤ n.toInt ∧ n.toInt ≤ 7) :
    MetFree l (⟨"com/example/ordr/ordr/model/Layout", "firstBelow", "([DD)I"⟩ : MethodName) (head1 (Jvm.Cond.code (⟨"com/example/ordr/ordr/model/Layout", "firstBelow", "([DD)I"⟩ : MethodName) prog_86_method_18_code 4 (some .int) :: ws) (Rm 2 0 0 26)) (fun a_ U_ => a_ = #[(.ref xa), (.double mn)] ∧ Z.Warmed39 U_.vm ∧ U_.heap = h0) (fun _ _ _ _ _ => True) (fun _ U_ o_ V_ => ∃ v_ L_, o_ = .returned v_ ∧ Q_fbG Z xa mn ka cm n h0 n0 v_ V_.heap L_ ∧ FrameEnd U_ o_ V_ L_ (Rm 2 0 0 26).cells (Rm 2 0 0 26).slots) := by
  rcases own_07 G3 with rfl | rfl | rfl | rfl | rfl | rfl | rfl | rfl
  · exact fb0 l Z a0 hw ws xa mn ka cm h0 n0 Z0 (G0.pad (pad_rep [] (.double (0 : UInt64)) 0)) G1 G2
  · exact fb1 l Z a0 hw ws xa mn ka cm h0 n0 Z0 (G0.pad (pad_rep [] (.double (0 : UInt64)) 1)) G1 G2
  · exact fb2 l Z a0 hw ws xa mn ka cm h0 n0 Z0 (G0.pad (pad_rep [] (.double (0 : UInt64)) 2)) G1 G2
  · exact fb3 l Z a0 hw ws xa mn ka cm h0 n0 Z0 (G0.pad (pad_rep [] (.double (0 : UInt64)) 3)) G1 G2
  · exact fb4 l Z a0 hw ws xa mn ka cm h0 n0 Z0 (G0.pad (pad_rep [] (.double (0 : UInt64)) 4)) G1 G2
  · exact fb5 l Z a0 hw ws xa mn ka cm h0 n0 Z0 (G0.pad (pad_rep [] (.double (0 : UInt64)) 5)) G1 G2
  · exact fb6 l Z a0 hw ws xa mn ka cm h0 n0 Z0 (G0.pad (pad_rep [] (.double (0 : UInt64)) 6)) G1 G2
  · exact fb7 l Z a0 hw ws xa mn ka cm h0 n0 Z0 (G0.pad (pad_rep [] (.double (0 : UInt64)) 7)) G1 G2
def Q_ck6 (Z : State) (xa sg : Nat) (n : Int32) (ka : ClassId) (sv : Nat) (kv : ClassId) (vs : List Value) (cs : Int32) (h0 : Heap) (n0 : Nat) (v_ : Option Value) (h : Heap) (L_ : List Loc) : Prop := ∃ (r : Nat), ∃ (kr : ClassId), (v_ = some (.ref r)) ∧ (Fr n0 L_) ∧ (Keep h0 h []) ∧ (Arv Z h r kr .double n [] (.double (0 : UInt64))) ∧ (Exa Z h r "[D") ∧ (h0.size ≤ r)
theorem ck6 (l : Launch) (Z : State) (a0 : Array Value) (hw : ∀ d ∈ tables_1, d.before a0 Z = true) (ws : List Jvm.Cond) (xa sg : Nat) (n : Int32) (ka : ClassId) (sv : Nat) (kv : ClassId) (vs : List Value) (cs : Int32) (h0 : Heap) (n0 : Nat) (Z0 : n0 ≤ h0.size) (G0 : Arv Z h0 xa ka .double n [] (.double (0 : UInt64))) (G1 : Exa Z h0 xa "[D") (G2 : 0 ≤ n.toInt ∧ n.toInt ≤ 7) (G3 : Exa Z h0 sg "java/lang/String") (G4 : Fld Z h0 sg "java/lang/String" "value" "[B" (.ref sv)) (G5 : Fld Z h0 sg "java/lang/String" "coder" "B" (.int (0 : Int32))) (G6 : Arv Z h0 sv kv .byte (6 : Int32) vs (.int (0 : Int32))) (G7 : Sta Z Z.heap "java/lang/String" "COMPACT_STRINGS" "Z" (.int cs)) (G8 : ¬ (cs = (0 : Int32))) (G9 : Old Z n0 h0) :
    MetFree l (⟨"com/example/ordr/ordr/model/Layout", "checked", "([DLjava/lang/String;ID)[D"⟩ : MethodName) (head1 (Jvm.Cond.code (⟨"com/example/ordr/ordr/model/Layout", "checked", "([DLjava/lang/String;ID)[D"⟩ : MethodName) prog_86_method_17_code 6 (some (.array .double)) :: ws) (Rm 6 7 81 101)) (fun a_ U_ => a_ = #[(.ref xa), (.ref sg), (.int n), (.double (0 : UInt64))] ∧ Z.Warmed39 U_.vm ∧ U_.heap = h0 ∧ CHv Z consts_1 U_.vm h0) (fun _ _ _ _ _ => True) (fun _ U_ o_ V_ => ∃ v_ L_, o_ = .returned v_ ∧ Q_ck6 Z xa sg n ka sv kv vs cs h0 n0 v_ V_.heap L_ ∧ CHr Z consts_1 U_.vm U_.heap V_.vm V_.heap ∧ ReturnedEndW U_ o_ V_ L_ (Rm 6 7 81 101).cells (Rm 6 7 81 101).slots) := by
  refine MetFree.of_bodySF (plainFor_of_name pn_4) hisR ?_
  intro p e s m args below meth c s₁ Bd hml0 hP hK
  obtain ⟨rfl, hZ, hh, hC0⟩ := hP
  have hx := Bd.exec
  have hby := Bd.bytes
  have hml : c.maxLocals = 6 := hml0
  have hown : s.vm.findClass "com/example/ordr/ordr/model/Layout" = some m.cls := findClass_of_methodNamed Bd.named
  have hnm := (name_of_methodNamed Bd.named Bd.method).1
  have hlk : meth.locks = false := Bd.notSynchronized
  have X0 : Stand p l e (Rm 6 7 81 101) s m #[(.ref xa), (.ref sg), (.int n), (.double (0 : UInt64))] below meth c s₁ [] 0 0 := Stand.of_body Bd
  have e0 : s₁.heap = h0 := by rw [← hh, Bd.state]; rfl
  have N0 := Fr.nil n0
  have X0 := own_base X0
  have hZ : Z.Warmed39 (s.setVm s.vm).vm := hZ
  have C0 := CHr.refl hC0
  have hS0 : s.Since s.vm 0 := (State.WarmedH.refl s).since 0
  have K0 := Keep.refl h0 []
  refine Comes.outH (EL := consts_1) (Z := Z) (Q := Q_ck6 Z xa sg n ka sv kv vs cs h0 n0) (kc := (Rm 6 7 81 101).cells) (ks := (Rm 6 7 81 101).slots) ?_
  refine Comes.cast (ef_ck6 m xa sg n) ?_
  have lt_xa : xa < h0.size := G0.lt
  have lt_sg : sg < h0.size := G3.lt
  have lt_sv : sv < h0.size := G6.lt
  show Comes p e below _ (s₁.setTop (mkF m 0 #[.val (.ref xa), .val (.ref sg), .val (.int n), .val (.double (0 : UInt64)), .second, .unset] []))
  refine Comes.st (fun t k => XS.aloadN X0.here hx rfl (hb hby d4_0) rfl rfl k) ?_
  show Comes p e below _ (s₁.setTop (mkF m 1 #[.val (.ref xa), .val (.ref sg), .val (.int n), .val (.double (0 : UInt64)), .second, .unset] [(.ref xa)]))
  obtain ⟨T1, h1, X1, e1, E1, A1, D1, -, st1⟩ := newO X0 hx hZ hown (W hw 30) (W hw 31) (W hw 32) e0 (g := (mkF m 1 #[.val (.ref xa), .val (.ref sg), .val (.int n), .val (.double (0 : UInt64)), .second, .unset] [(.ref xa)])) rfl (hb hby d4_1) (by decide) (by decide)
  obtain ⟨b1, g1⟩ : ∃ z, z = h0.size := ⟨_, rfl⟩
  rw [← g1] at A1 D1 st1
  have Ca1 := CHr.ext E1 C0.1
  have z1 : h0.size ≤ h1.size := E1.1
  have C1 := C0.trans Ca1
  have lt1 : b1 < h1.size := A1.lt
  have F2 : Fld Z h1 b1 "java/lang/AbstractStringBuilder" "value" "[B" .null := D1 (Or.inl (W hw 45)) (ty := (.array .byte)) (by decide)
  have F3 : Fld Z h1 b1 "java/lang/AbstractStringBuilder" "coder" "B" (.int (0 : Int32)) := D1 (Or.inl (W hw 47)) (ty := .byte) (by decide)
  have F4 : Fld Z h1 b1 "java/lang/AbstractStringBuilder" "count" "I" (.int (0 : Int32)) := D1 (Or.inl (W hw 72)) (ty := .int) (by decide)
  have K1 : Keep h0 h1 [] := K0.ext E1
  refine Comes.st st1 ?_
  show Comes p e below _ (T1.setTop (mkF m 4 #[.val (.ref xa), .val (.ref sg), .val (.int n), .val (.double (0 : UInt64)), .second, .unset] [(.ref b1), (.ref xa)]))
  refine Comes.st (fun t k => XS.dup X1.here hx rfl (hb hby d4_4) rfl rfl k) ?_
  show Comes p e below _ (T1.setTop (mkF m 5 #[.val (.ref xa), .val (.ref sg), .val (.int n), .val (.double (0 : UInt64)), .second, .unset] [(.ref b1), (.ref b1), (.ref xa)]))
  have Od5 : Old Z n0 h1 := (G9.ext E1)
  obtain ⟨_, _, ⟨T6, L6, k6, n6⟩, -, X6, ⟨Lc6, hQ6, l6, y6, z6⟩, st6⟩ := X1.specialBack hx (y := (⟨"java/lang/StringBuilder", "<init>", "()V"⟩ : MethodName)) rfl hown (mvT hZ (W hw 33)) (mvT hZ (W hw 34)) (mvT hZ (W hw 35)) (by decide) (backOf (W := 2) (rm5 l Z a0 hw [] b1 cs h1 n0 (by omega)  A1 F2 F3 F4 G7 (by assumption) Od5 (by omega)) hZ (W hw 35) (W hw 32) (by decide) (by decide)) (g := (mkF m 5 #[.val (.ref xa), .val (.ref sg), .val (.int n), .val (.double (0 : UInt64)), .second, .unset] [(.ref b1), (.ref b1), (.ref xa)])) rfl (by rw [hml]; rfl) (Steps.refl _) (a := b1) (argsL := []) (rest := [(.ref b1), (.ref xa)]) (lenOf pd_16 rfl) rfl (by show 2 * 0 + _ ≤ _; exact Nat.le_of_eq rfl) (hb hby d4_5) (fun _ _ => ⟨rfl, e1, (by decide : 1 + 1 ≤ _), (by decide : 4 + 16 ≤ _)⟩)
  dsimp only [Pt.U, Pt.locs, Pt.cells, Pt.slots] at X6 l6 y6 z6 st6 hQ6
  subst l6 y6 z6
  obtain ⟨o7, r8, rfl, Nq6, Kq6, P6_0, P6_1, P6_2, P6_3, P6_4, P6_5, P6_6⟩ := hQ6
  have N6 := Fr.app N0 Nq6
  have Ca6k := CHr.keep Kq6 (allS (Safe.exa hZ.alike A1 (by decide) (by decide)) all0) C1.1
  have z6k : h1.size ≤ T6.heap.size := Kq6.1
  have C6k := C1.trans Ca6k
  have sf9 : Safe Z consts_1 s.vm T6.heap o7 := Safe.keep Kq6 (allS (Safe.exa hZ.alike A1 (by decide) (by decide)) all0) C1.1 (Safe.new P6_6)
  have gz10 : h0.size ≤ b1 := by omega
  have K6 : Keep h0 T6.heap [] := K1.trans Kq6 (allS (Or.inr gz10) all0)
  refine Comes.go st6 ?_
  have lt_11 : b1 < T6.heap.size := P6_0.lt
  have lt_12 : o7 < T6.heap.size := P6_4.lt
  show Comes p e below _ (T6.setTop (mkF m 8 #[.val (.ref xa), .val (.ref sg), .val (.int n), .val (.double (0 : UInt64)), .second, .unset] [(.ref b1), (.ref xa)]))
  refine Comes.st (fun t k => XS.aloadN X6.here hx rfl (hb hby d4_8) rfl rfl k) ?_
  show Comes p e below _ (T6.setTop (mkF m 9 #[.val (.ref xa), .val (.ref sg), .val (.int n), .val (.double (0 : UInt64)), .second, .unset] [(.ref sg), (.ref b1), (.ref xa)]))
  have F13 : Exa Z T6.heap sg "java/lang/String" := ((G3.ext E1).keep Kq6)
  have ne14 : sg ≠ b1 := by omega
  have F15 : Fld Z T6.heap sg "java/lang/String" "value" "[B" (.ref sv) := ((G4.ext E1).keep Kq6 (ninS ne14 nin0))
  have F16 : Fld Z T6.heap sg "java/lang/String" "coder" "B" (.int (0 : Int32)) := ((G5.ext E1).keep Kq6 (ninS ne14 nin0))
  have ne17 : sv ≠ b1 := by omega
  have F18 : Arv Z T6.heap sv kv .byte (6 : Int32) vs (.int (0 : Int32)) := ((G6.ext E1).keep Kq6 (ninS ne17 nin0))
  have Od19 : Old Z n0 T6.heap := (Od5.keep Kq6 (allS (by omega) all0))
  have ne20 : sv ≠ o7 := by omega
  have ne21 : b1 ≠ o7 := by omega
  have ne22 : sg ≠ o7 := by omega
  obtain ⟨cq23, kq23, q23a, q23b, q23c⟩ := isOf hZ rfl P6_0
  obtain ⟨_, _, ⟨T23, L23, k23, n23⟩, -, X23, ⟨Lc23, hQ23, l23, y23, z23⟩, st23⟩ := X6.virtualBack hx (y := (⟨"java/lang/StringBuilder", "append", "(Ljava/lang/String;)Ljava/lang/StringBuilder;"⟩ : MethodName)) (z := (⟨"java/lang/StringBuilder", "append", "(Ljava/lang/String;)Ljava/lang/StringBuilder;"⟩ : MethodName)) hown (mvT hZ (W hw 48)) (mvT hZ (W hw 49)) (notFace_of_selects (args := #[]) (mvT hZ (W hw 51))) (mvT hZ (W hw 51)) (mvT hZ (W hw 50)) (by decide) (backOf (W := 1) (ap0_6 l Z a0 hw [] b1 sg sv kv vs cs o7 r8 ([(.int (0 : Int32)), (.int (0 : Int32)), (.int (0 : Int32)), (.int (0 : Int32)), (.int (0 : Int32)), (.int (0 : Int32)), (.int (0 : Int32)), (.int (0 : Int32)), (.int (0 : Int32)), (.int (0 : Int32)), (.int (0 : Int32)), (.int (0 : Int32)), (.int (0 : Int32)), (.int (0 : Int32)), (.int (0 : Int32)), (.int (0 : Int32))]) T6.heap n0 (by omega)  P6_0 P6_1 P6_2 P6_3 F13 F15 F16 F18 P6_4 P6_5 (by first | assumption | rfl) G7 (by assumption) Od19 ne20 (by omega) ne21 ne22 (by omega) ne14 ne17) hZ (W hw 52) (W hw 32) (by decide) (by decide)) q23a q23c (g := (mkF m 9 #[.val (.ref xa), .val (.ref sg), .val (.int n), .val (.double (0 : UInt64)), .second, .unset] [(.ref sg), (.ref b1), (.ref xa)])) rfl (by rw [hml]; rfl) (Steps.refl _) (argsL := [(.ref sg)]) (rest := [(.ref xa)]) (lenOf pd_17 rfl) rfl (by show 2 * 0 + _ ≤ _; exact Nat.le_of_eq rfl) (hb hby d4_9) (fun _ _ => ⟨rfl, rfl, (by decide : 2 + 0 ≤ _), (by decide : 20 + 0 ≤ _)⟩)
  dsimp only [Pt.U, Pt.locs, Pt.cells, Pt.slots] at X23 l23 y23 z23 st23 hQ23
  subst l23 y23 z23
  obtain ⟨r24, rfl, Nq23, Kq23, P23_0, P23_1, P23_2, P23_3, P23_4, P23_5, P23_6⟩ := hQ23
  have N23 := Fr.app N6 Nq23
  have Ca23k := CHr.keep Kq23 (allS (Safe.exa hZ.alike P6_0 (by decide) (by decide)) (allS sf9 all0)) C6k.1
  have z23k : T6.heap.size ≤ T23.heap.size := Kq23.1
  have C23k := C6k.trans Ca23k
  have lsf25 : o7 < T6.heap.size := by omega
  have sf25 := Ca23k.safe lsf25 sf9
  have gz26 : h0.size ≤ o7 := by omega
  have K23 : Keep h0 T23.heap [] := K6.trans Kq23 (allS (Or.inr gz10) (allS (Or.inr gz26) all0))
  refine Comes.go st23 ?_
  show Comes p e below _ (T23.setTop (mkF m 12 #[.val (.ref xa), .val (.ref sg), .val (.int n), .val (.double (0 : UInt64)), .second, .unset] [(.ref b1), (.ref xa)]))
  have sf28 : Safe Z consts_1 s.vm T23.heap b1 := (Safe.exa hZ.alike P23_0 (by decide) (by decide))
  obtain ⟨b27, T27, h27, k27, v27, q27, X27, e27, E27, hS27, hk27, hZ, hown, A27, Fc27, Fv27, V27, lt27, lv27, Ca27, -, Sn27, st27⟩ := ldcCH (s := s) (vm0 := s.vm) X23 hx hZ hown (W hw 98) (fun d hd => by simp only [Bundle.stringAtoms, List.mem_cons, List.not_mem_nil, or_false] at hd; rcases hd with rfl | rfl | rfl | rfl | rfl | rfl | rfl; exact hw _ (List.mem_of_getElem? (i := 12) rfl); exact hw _ (List.mem_of_getElem? (i := 13) rfl); exact hw _ (List.mem_of_getElem? (i := 14) rfl); exact hw _ (List.mem_of_getElem? (i := 15) rfl); exact hw _ (List.mem_of_getElem? (i := 16) rfl); exact hw _ (List.mem_of_getElem? (i := 17) rfl); exact hw _ (List.mem_of_getElem? (i := 18) rfl)) rfl hS0 (Nat.zero_le _) (own_EW hw) (List.mem_of_getElem? (i := 5) rfl) C23k.1 (vs := (own_tx " is null")) (z := (8 : Int32)) ⟨by decide, rfl⟩ (by decide) (by decide) (g := (mkF m 12 #[.val (.ref xa), .val (.ref sg), .val (.int n), .val (.double (0 : UInt64)), .second, .unset] [(.ref b1), (.ref xa)])) rfl (hb hby d4_12) (n := 32) (by decide) (by decide) (by decide) (by decide)
  have z27 : T23.heap.size ≤ h27.size := E27.1
  have C27 := C23k.trans Ca27
  have lsf29 : o7 < T23.heap.size := by omega
  have sf29 := Ca27.safe lsf29 sf25
  have lsf30 : b1 < T23.heap.size := by omega
  have sf30 := Ca27.safe lsf30 sf28
  have K27 : Keep h0 h27 [] := K23.ext E27
  refine Comes.st st27 ?_
  show Comes p e below _ (T27.setTop (mkF m 14 #[.val (.ref xa), .val (.ref sg), .val (.int n), .val (.double (0 : UInt64)), .second, .unset] [(.ref b27), (.ref b1), (.ref xa)]))
  have F31 : Exa Z h27 b1 "java/lang/StringBuilder" := (P23_0.ext E27)
  have F32 : Fld Z h27 b1 "java/lang/AbstractStringBuilder" "value" "[B" (.ref o7) := (P23_1.ext E27)
  have F33 : Fld Z h27 b1 "java/lang/AbstractStringBuilder" "coder" "B" (.int (0 : Int32)) := (P23_2.ext E27)
  have F34 : Fld Z h27 b1 "java/lang/AbstractStringBuilder" "count" "I" (.int (6 : Int32)) := (P23_3.ext E27)
  have F35 : Arv Z h27 o7 r8 .byte (16 : Int32) r24 (.int (0 : Int32)) := (P23_4.ext E27)
  have F36 : Exa Z h27 o7 "[B" := (P23_6.ext E27)
  have Od37 : Old Z n0 h27 := ((Od19.keep Kq23 (allS (by omega) (allS (by omega) all0))).ext E27)
  obtain ⟨cq38, kq38, q38a, q38b, q38c⟩ := isOf hZ e27 F31
  obtain ⟨_, _, ⟨T38, L38, k38, n38⟩, -, X38, ⟨Lc38, hQ38, l38, y38, z38⟩, st38⟩ := X27.virtualBack hx (y := (⟨"java/lang/StringBuilder", "append", "(Ljava/lang/String;)Ljava/lang/StringBuilder;"⟩ : MethodName)) (z := (⟨"java/lang/StringBuilder", "append", "(Ljava/lang/String;)Ljava/lang/StringBuilder;"⟩ : MethodName)) hown (mvT hZ (W hw 48)) (mvT hZ (W hw 49)) (notFace_of_selects (args := #[]) (mvT hZ (W hw 51))) (mvT hZ (W hw 51)) (mvT hZ (W hw 50)) (by decide) (backOf (W := 1) (ap6_8 l Z a0 hw [] b1 b27 v27 q27 ((own_tx " is null")) cs o7 r8 r24 h27 n0 (by omega)  F31 F32 F33 F34 A27 Fv27 Fc27 V27 F35 F36 (by first | assumption | rfl) G7 (by assumption) Od37 (Ne.symm (Sn27 _ sf29).2) (by omega) ne21 (Ne.symm (Sn27 _ sf29).1) (by omega) (Ne.symm (Sn27 _ sf30).1) (Ne.symm (Sn27 _ sf30).2)) hZ (W hw 52) (W hw 32) (by decide) (by decide)) q38a q38c (g := (mkF m 14 #[.val (.ref xa), .val (.ref sg), .val (.int n), .val (.double (0 : UInt64)), .second, .unset] [(.ref b27), (.ref b1), (.ref xa)])) rfl (by rw [hml]; rfl) (Steps.refl _) (argsL := [(.ref b27)]) (rest := [(.ref xa)]) (lenOf pd_17 rfl) rfl (by show 2 * 0 + _ ≤ _; exact Nat.le_of_eq rfl) (hb hby d4_14) (fun _ _ => ⟨rfl, e27, (by decide : 4 + 0 ≤ _), (by decide : 56 + 0 ≤ _)⟩)
  dsimp only [Pt.U, Pt.locs, Pt.cells, Pt.slots] at X38 l38 y38 z38 st38 hQ38
  subst l38 y38 z38
  obtain ⟨r39, rfl, Nq38, Kq38, P38_0, P38_1, P38_2, P38_3, P38_4, P38_5, P38_6⟩ := hQ38
  have N38 := Fr.app N23 Nq38
  have Ca38k := CHr.keep Kq38 (allS sf30 (allS sf29 all0)) C27.1
  have z38k : h27.size ≤ T38.heap.size := Kq38.1
  have C38k := C27.trans Ca38k
  have lsf40 : o7 < h27.size := by omega
  have sf40 := Ca38k.safe lsf40 sf29
  have lsf41 : b1 < h27.size := by omega
  have sf41 := Ca38k.safe lsf41 sf30
  have K38 : Keep h0 T38.heap [] := K27.trans Kq38 (allS (Or.inr gz10) (allS (Or.inr gz26) all0))
  refine Comes.go st38 ?_
  show Comes p e below _ (T38.setTop (mkF m 17 #[.val (.ref xa), .val (.ref sg), .val (.int n), .val (.double (0 : UInt64)), .second, .unset] [(.ref b1), (.ref xa)]))
  have Od42 : Old Z n0 T38.heap := (Od37.keep Kq38 (allS (by omega) (allS (by omega) all0)))
  obtain ⟨cq43, kq43, q43a, q43b, q43c⟩ := isOf hZ rfl P38_0
  obtain ⟨_, _, ⟨T43, L43, k43, n43⟩, -, X43, ⟨Lc43, hQ43, l43, y43, z43⟩, st43⟩ := X38.virtualBack hx (y := (⟨"java/lang/StringBuilder", "toString", "()Ljava/lang/String;"⟩ : MethodName)) (z := (⟨"java/lang/StringBuilder", "toString", "()Ljava/lang/String;"⟩ : MethodName)) hown (mvT hZ (W hw 99)) (mvT hZ (W hw 100)) (notFace_of_selects (args := #[]) (mvT hZ (W hw 102))) (mvT hZ (W hw 102)) (mvT hZ (W hw 101)) (by decide) (backOf (W := 1) (ts14 l Z a0 hw [] b1 o7 r8 r39 cs T38.heap n0 (by omega)  P38_0 P38_1 P38_2 P38_3 P38_4 P38_6 (by first | assumption | rfl) G7 (by assumption) Od42) hZ (W hw 103) (W hw 32) (by decide) (by decide)) q43a q43c (g := (mkF m 17 #[.val (.ref xa), .val (.ref sg), .val (.int n), .val (.double (0 : UInt64)), .second, .unset] [(.ref b1), (.ref xa)])) rfl (by rw [hml]; rfl) (Steps.refl _) (argsL := []) (rest := [(.ref xa)]) (lenOf pd_18 rfl) rfl (by show 2 * 0 + _ ≤ _; exact Nat.le_of_eq rfl) (hb hby d4_17) (fun _ _ => ⟨rfl, rfl, (by decide : 4 + 2 ≤ _), (by decide : 56 + 18 ≤ _)⟩)
  dsimp only [Pt.U, Pt.locs, Pt.cells, Pt.slots] at X43 l43 y43 z43 st43 hQ43
  subst l43 y43 z43
  obtain ⟨o44, rfl, Nq43, Kq43, P43_0⟩ := hQ43
  have N43 := Fr.app N38 Nq43
  have Ca43k := CHr.keep Kq43 all0 C38k.1
  have z43k : T38.heap.size ≤ T43.heap.size := Kq43.1
  have C43k := C38k.trans Ca43k
  have lsf45 : o7 < T38.heap.size := by omega
  have sf45 := Ca43k.safe lsf45 sf40
  have lsf46 : b1 < T38.heap.size := by omega
  have sf46 := Ca43k.safe lsf46 sf41
  have K43 : Keep h0 T43.heap [] := K38.trans Kq43 all0
  refine Comes.go st43 ?_
  have lt_47 : o44 < T43.heap.size := P43_0.lt
  show Comes p e below _ (T43.setTop (mkF m 20 #[.val (.ref xa), .val (.ref sg), .val (.int n), .val (.double (0 : UInt64)), .second, .unset] [(.ref o44), (.ref xa)]))
  obtain ⟨_, _, ⟨T48, L48, k48, n48⟩, -, X48, ⟨Lc48, hQ48, l48, y48, z48⟩, st48⟩ := Jvm.LawKit.callS X43 hx (y := (⟨"java/util/Objects", "requireNonNull", "(Ljava/lang/Object;Ljava/lang/String;)Ljava/lang/Object;"⟩ : MethodName)) hown (mvT hZ (W hw 146)) (mvT hZ (W hw 20)) (mvT hZ (W hw 21)) (mvT hZ (W hw 22)) (by decide) (backOf (W := 0) (rm3 l Z a0 hw [] xa o44 T43.heap n0 (by omega)  ) hZ (W hw 22) (W hw 21) (by decide) (by decide)) (g := (mkF m 20 #[.val (.ref xa), .val (.ref sg), .val (.int n), .val (.double (0 : UInt64)), .second, .unset] [(.ref o44), (.ref xa)])) rfl (by rw [hml]; rfl) (argsL := [(.ref xa), (.ref o44)]) (rest := []) (lenOf pd_19 rfl) rfl (by show 2 * 0 + _ ≤ _; exact Nat.le_of_eq rfl) (hb hby d4_20) (fun _ _ => ⟨rfl, rfl, (by decide : 6 + 0 ≤ _), (by decide : 74 + 0 ≤ _)⟩)
  dsimp only [Pt.U, Pt.locs, Pt.cells, Pt.slots] at X48 l48 y48 z48 st48 hQ48
  subst l48 y48 z48
  obtain ⟨rfl, Nq48, hs48⟩ := hQ48
  have N48 := Fr.app N43 Nq48
  refine Comes.st st48 ?_
  show Comes p e below _ (T48.setTop (mkF m 23 #[.val (.ref xa), .val (.ref sg), .val (.int n), .val (.double (0 : UInt64)), .second, .unset] [(.ref xa)]))
  refine Comes.st (fun t k => XS.pop X48.here hx rfl (hb hby d4_23) rfl rfl (XS.aloadN X48.here hx rfl (hb hby d4_24) rfl rfl k)) ?_
  show Comes p e below _ (T48.setTop (mkF m 25 #[.val (.ref xa), .val (.ref sg), .val (.int n), .val (.double (0 : UInt64)), .second, .unset] [(.ref xa)]))
  have ne49 : xa ≠ b1 := by omega
  have ne50 : xa ≠ o7 := by omega
  have F51 : Arv Z T43.heap xa ka .double n [] (.double (0 : UInt64)) := ((((((G0.ext E1).keep Kq6 (ninS ne49 nin0)).keep Kq23 (ninS ne49 (ninS ne50 nin0))).ext E27).keep Kq38 (ninS ne49 (ninS ne50 nin0))).keep Kq43 nin0)
  obtain ⟨cl52, Ar52, -, S52, Ng52, -, -⟩ := id F51
  refine Comes.st (fun t k => X48.arraylength hx (by rw [hs48]; exact Ar52.1) (State.isArrayOf_alike hZ.alike Ar52.2.1) (g := (mkF m 25 #[.val (.ref xa), .val (.ref sg), .val (.int n), .val (.double (0 : UInt64)), .second, .unset] [(.ref xa)])) rfl rfl (hb hby d4_25) _ k) ?_
  rw [len_of S52 Ng52]
  show Comes p e below _ (T48.setTop (mkF m 26 #[.val (.ref xa), .val (.ref sg), .val (.int n), .val (.double (0 : UInt64)), .second, .unset] [(.int n)]))
  refine Comes.st (fun t k => XS.iloadN X48.here hx rfl (hb hby d4_26) rfl k) ?_
  show Comes p e below _ (T48.setTop (mkF m 27 #[.val (.ref xa), .val (.ref sg), .val (.int n), .val (.double (0 : UInt64)), .second, .unset] [(.int n), (.int n)]))
  have hc27_53 : n = n := by rfl
  refine Comes.st (fun t k => XS.icmpYes X48.here hx rfl (pc0 := 27) (pc' := 71) rfl (hb hby d4_27) rfl (teq hc27_53).1 (by decide) (by decide) (XS.aloadN X48.here hx rfl (hb hby d4_71) rfl rfl (XS.dloadN X48.here hx rfl (hb hby d4_72) rfl k))) ?_
  show Comes p e below _ (T48.setTop (mkF m 73 #[.val (.ref xa), .val (.ref sg), .val (.int n), .val (.double (0 : UInt64)), .second, .unset] [(.double (0 : UInt64)), (.ref xa)]))
  obtain ⟨_, _, ⟨T54, L54, k54, n54⟩, -, X54, ⟨Lc54, hQ54, l54, y54, z54⟩, st54⟩ := Jvm.LawKit.callS X48 hx (y := (⟨"com/example/ordr/ordr/model/Layout", "firstBelow", "([DD)I"⟩ : MethodName)) hown (mvT hZ (W hw 147)) (mvT hZ (W hw 148)) (mvT hZ (W hw 28)) (mvT hZ (W hw 149)) (by decide) (backOf (W := 0) (fbG l Z a0 hw [] xa ((0 : UInt64)) ka ((0 : Int32)) n T43.heap n0 (by omega)  F51 (by first | assumption | exact rfl | decide +kernel | decide) (by first | assumption | exact rfl | decide +kernel | decide) (by first | assumption | exact rfl | decide +kernel | decide)) hZ (W hw 149) (W hw 28) (by decide) (by decide)) (g := (mkF m 73 #[.val (.ref xa), .val (.ref sg), .val (.int n), .val (.double (0 : UInt64)), .second, .unset] [(.double (0 : UInt64)), (.ref xa)])) rfl (by rw [hml]; rfl) (argsL := [(.ref xa), (.double (0 : UInt64))]) (rest := []) (lenOf pd_20 rfl) rfl (by show 2 * 0 + _ ≤ _; exact Nat.le_of_eq rfl) (hb hby d4_73) (fun _ _ => ⟨rfl, hs48, (by decide : 6 + 0 ≤ _), (by decide : 74 + 0 ≤ _)⟩)
  dsimp only [Pt.U, Pt.locs, Pt.cells, Pt.slots] at X54 l54 y54 z54 st54 hQ54
  subst l54 y54 z54
  obtain ⟨rfl, Nq54, hs54⟩ := hQ54
  have N54 := Fr.app N48 Nq54
  refine Comes.st st54 ?_
  show Comes p e below _ (T54.setTop (mkF m 76 #[.val (.ref xa), .val (.ref sg), .val (.int n), .val (.double (0 : UInt64)), .second, .unset] [(.int (-1 : Int32))]))
  refine Comes.st (fun t k => XS.istore X54.here hx rfl (hb hby d4_76) rfl (l' := #[.val (.ref xa), .val (.ref sg), .val (.int n), .val (.double (0 : UInt64)), .second, .val (.int (-1 : Int32))]) rfl (XS.iload X54.here hx rfl (hb hby d4_78) rfl k)) ?_
  show Comes p e below _ (T54.setTop (mkF m 80 #[.val (.ref xa), .val (.ref sg), .val (.int n), .val (.double (0 : UInt64)), .second, .val (.int (-1 : Int32))] [(.int (-1 : Int32))]))
  have hc80_55 : (-1 : Int32) < (0 : Int32) := by decide
  refine Comes.st (fun t k => XS.ifYes X54.here hx rfl (pc0 := 80) (pc' := 127) rfl (hb hby d4_80) rfl ((if0 _ _).trans (tlt hc80_55).1) (by decide) (by decide) (XS.aloadN X54.here hx rfl (hb hby d4_127) rfl rfl k)) ?_
  show Comes p e below _ (T54.setTop (mkF m 128 #[.val (.ref xa), .val (.ref sg), .val (.int n), .val (.double (0 : UInt64)), .second, .val (.int (-1 : Int32))] [(.ref xa)]))
  have F56 : Exa Z T43.heap xa "[D" := ((((((G1.ext E1).keep Kq6).keep Kq23).ext E27).keep Kq38).keep Kq43)
  obtain ⟨T57, h57, X57, e57, E57, V57, Ex57, st57⟩ := cloneH X54 hx hZ hown (W hw 150) (W hw 151) (W hw 155) (W hw 153) (W hw 154) (W hw 156) hs54 (Arv.arh F51) F56 (g := (mkF m 128 #[.val (.ref xa), .val (.ref sg), .val (.int n), .val (.double (0 : UInt64)), .second, .val (.int (-1 : Int32))] [(.ref xa)])) rfl (by rw [hml]; rfl) rfl (hb hby d4_128) (by decide) (W := 0) (by show 2 * 0 + _ ≤ _; exact Nat.le_of_eq rfl) (by decide) (cap := 7) (by exact own_n7 (by assumption)) (by decide) (by decide)
  obtain ⟨b57, g57⟩ : ∃ z, z = T43.heap.size := ⟨_, rfl⟩
  rw [← g57] at V57 Ex57 st57
  have Ca57 := CHr.ext E57 C43k.1
  have z57 : T43.heap.size ≤ h57.size := E57.1
  have C57 := C43k.trans Ca57
  have lsf58 : o7 < T43.heap.size := by omega
  have sf58 := Ca57.safe lsf58 sf45
  have lsf59 : b1 < T43.heap.size := by omega
  have sf59 := Ca57.safe lsf59 sf46
  have lt57 : b57 < h57.size := V57.lt
  have V57' : Arv Z h57 b57 ka .double n [] (.double (0 : UInt64)) := V57
  have K57 : Keep h0 h57 [] := K43.ext E57
  refine Comes.st st57 ?_
  show Comes p e below _ (T57.setTop (mkF m 131 #[.val (.ref xa), .val (.ref sg), .val (.int n), .val (.double (0 : UInt64)), .second, .val (.int (-1 : Int32))] [(.ref b57)]))
  obtain ⟨T60, X60, e60, st60⟩ := castY X57 hx hZ hown (W hw 157) e57 (Ins.self Ex57) (g := (mkF m 131 #[.val (.ref xa), .val (.ref sg), .val (.int n), .val (.double (0 : UInt64)), .second, .val (.int (-1 : Int32))] [(.ref b57)])) rfl rfl (hb hby d4_131)
  refine Comes.st st60 ?_
  show Comes p e below _ (T60.setTop (mkF m 134 #[.val (.ref xa), .val (.ref sg), .val (.int n), .val (.double (0 : UInt64)), .second, .val (.int (-1 : Int32))] [(.ref b57)]))
  have hkf : k27 ≤ h57.size := by omega
  exact Comes.hretV X60 hx Bd.returns (narrow_ref rfl) (Or.inr (Or.inr (Or.inr (Or.inr ⟨rfl, rfl, rfl⟩)))) hlk (hb hby d4_134) hS27 hkf e60 ⟨b57, ka, rfl, N54, K57, V57', Ex57, (by omega)⟩ (by decide) (by decide) (by rw [hh]; exact C57) hZ (own_EW hw)
def Q_ck7 (Z : State) (xa sg : Nat) (n : Int32) (ka : ClassId) (sv : Nat) (kv : ClassId) (vs : List Value) (cs : Int32) (h0 : Heap) (n0 : Nat) (v_ : Option Value) (h : Heap) (L_ : List Loc) : Prop := ∃ (r : Nat), ∃ (kr : ClassId), (v_ = some (.ref r)) ∧ (Fr n0 L_) ∧ (Keep h0 h []) ∧ (Arv Z h r kr .double n [] (.double (0 : UInt64))) ∧ (Exa Z h r "[D") ∧ (h0.size ≤ r)
theorem ck7 (l : Launch) (Z : State) (a0 : Array Value) (hw : ∀ d ∈ tables_1, d.before a0 Z = true) (ws : List Jvm.Cond) (xa sg : Nat) (n : Int32) (ka : ClassId) (sv : Nat) (kv : ClassId) (vs : List Value) (cs : Int32) (h0 : Heap) (n0 : Nat) (Z0 : n0 ≤ h0.size) (G0 : Arv Z h0 xa ka .double n [] (.double (0 : UInt64))) (G1 : Exa Z h0 xa "[D") (G2 : 0 ≤ n.toInt ∧ n.toInt ≤ 7) (G3 : Exa Z h0 sg "java/lang/String") (G4 : Fld Z h0 sg "java/lang/String" "value" "[B" (.ref sv)) (G5 : Fld Z h0 sg "java/lang/String" "coder" "B" (.int (0 : Int32))) (G6 : Arv Z h0 sv kv .byte (7 : Int32) vs (.int (0 : Int32))) (G7 : Sta Z Z.heap "java/lang/String" "COMPACT_STRINGS" "Z" (.int cs)) (G8 : ¬ (cs = (0 : Int32))) (G9 : Old Z n0 h0) :
    MetFree l (⟨"com/example/ordr/ordr/model/Layout", "checked", "([DLjava/lang/String;ID)[D"⟩ : MethodName) (head1 (Jvm.Cond.code (⟨"com/example/ordr/ordr/model/Layout", "checked", "([DLjava/lang/String;ID)[D"⟩ : MethodName) prog_86_method_17_code 6 (some (.array .double)) :: ws) (Rm 6 7 82 101)) (fun a_ U_ => a_ = #[(.ref xa), (.ref sg), (.int n), (.double (0 : UInt64))] ∧ Z.Warmed39 U_.vm ∧ U_.heap = h0 ∧ CHv Z consts_1 U_.vm h0) (fun _ _ _ _ _ => True) (fun _ U_ o_ V_ => ∃ v_ L_, o_ = .returned v_ ∧ Q_ck7 Z xa sg n ka sv kv vs cs h0 n0 v_ V_.heap L_ ∧ CHr Z consts_1 U_.vm U_.heap V_.vm V_.heap ∧ ReturnedEndW U_ o_ V_ L_ (Rm 6 7 82 101).cells (Rm 6 7 82 101).slots) := by
  refine MetFree.of_bodySF (plainFor_of_name pn_4) hisR ?_
  intro p e s m args below meth c s₁ Bd hml0 hP hK
  obtain ⟨rfl, hZ, hh, hC0⟩ := hP
  have hx := Bd.exec
  have hby := Bd.bytes
  have hml : c.maxLocals = 6 := hml0
  have hown : s.vm.findClass "com/example/ordr/ordr/model/Layout" = some m.cls := findClass_of_methodNamed Bd.named
  have hnm := (name_of_methodNamed Bd.named Bd.method).1
  have hlk : meth.locks = false := Bd.notSynchronized
  have X0 : Stand p l e (Rm 6 7 82 101) s m #[(.ref xa), (.ref sg), (.int n), (.double (0 : UInt64))] below meth c s₁ [] 0 0 := Stand.of_body Bd
  have e0 : s₁.heap = h0 := by rw [← hh, Bd.state]; rfl
  have N0 := Fr.nil n0
  have X0 := own_base X0
  have hZ : Z.Warmed39 (s.setVm s.vm).vm := hZ
  have C0 := CHr.refl hC0
  have hS0 : s.Since s.vm 0 := (State.WarmedH.refl s).since 0
  have K0 := Keep.refl h0 []
  refine Comes.outH (EL := consts_1) (Z := Z) (Q := Q_ck7 Z xa sg n ka sv kv vs cs h0 n0) (kc := (Rm 6 7 82 101).cells) (ks := (Rm 6 7 82 101).slots) ?_
  refine Comes.cast (ef_ck7 m xa sg n) ?_
  have lt_xa : xa < h0.size := G0.lt
  have lt_sg : sg < h0.size := G3.lt
  have lt_sv : sv < h0.size := G6.lt
  show Comes p e below _ (s₁.setTop (mkF m 0 #[.val (.ref xa), .val (.ref sg), .val (.int n), .val (.double (0 : UInt64)), .second, .unset] []))
  refine Comes.st (fun t k => XS.aloadN X0.here hx rfl (hb hby d4_0) rfl rfl k) ?_
  show Comes p e below _ (s₁.setTop (mkF m 1 #[.val (.ref xa), .val (.ref sg), .val (.int n), .val (.double (0 : UInt64)), .second, .unset] [(.ref xa)]))
  obtain ⟨T1, h1, X1, e1, E1, A1, D1, -, st1⟩ := newO X0 hx hZ hown (W hw 30) (W hw 31) (W hw 32) e0 (g := (mkF m 1 #[.val (.ref xa), .val (.ref sg), .val (.int n), .val (.double (0 : UInt64)), .second, .unset] [(.ref xa)])) rfl (hb hby d4_1) (by decide) (by decide)
  obtain ⟨b1, g1⟩ : ∃ z, z = h0.size := ⟨_, rfl⟩
  rw [← g1] at A1 D1 st1
  have Ca1 := CHr.ext E1 C0.1
  have z1 : h0.size ≤ h1.size := E1.1
  have C1 := C0.trans Ca1
  have lt1 : b1 < h1.size := A1.lt
  have F2 : Fld Z h1 b1 "java/lang/AbstractStringBuilder" "value" "[B" .null := D1 (Or.inl (W hw 45)) (ty := (.array .byte)) (by decide)
  have F3 : Fld Z h1 b1 "java/lang/AbstractStringBuilder" "coder" "B" (.int (0 : Int32)) := D1 (Or.inl (W hw 47)) (ty := .byte) (by decide)
  have F4 : Fld Z h1 b1 "java/lang/AbstractStringBuilder" "count" "I" (.int (0 : Int32)) := D1 (Or.inl (W hw 72)) (ty := .int) (by decide)
  have K1 : Keep h0 h1 [] := K0.ext E1
  refine Comes.st st1 ?_
  show Comes p e below _ (T1.setTop (mkF m 4 #[.val (.ref xa), .val (.ref sg), .val (.int n), .val (.double (0 : UInt64)), .second, .unset] [(.ref b1), (.ref xa)]))
  refine Comes.st (fun t k => XS.dup X1.here hx rfl (hb hby d4_4) rfl rfl k) ?_
  show Comes p e below _ (T1.setTop (mkF m 5 #[.val (.ref xa), .val (.ref sg), .val (.int n), .val (.double (0 : UInt64)), .second, .unset] [(.ref b1), (.ref b1), (.ref xa)]))
  have Od5 : Old Z n0 h1 := (G9.ext E1)
  obtain ⟨_, _, ⟨T6, L6, k6, n6⟩, -, X6, ⟨Lc6, hQ6, l6, y6, z6⟩, st6⟩ := X1.specialBack hx (y := (⟨"java/lang/StringBuilder", "<init>", "()V"⟩ : MethodName)) rfl hown (mvT hZ (W hw 33)) (mvT hZ (W hw 34)) (mvT hZ (W hw 35)) (by decide) (backOf (W := 2) (rm5 l Z a0 hw [] b1 cs h1 n0 (by omega)  A1 F2 F3 F4 G7 (by assumption) Od5 (by omega)) hZ (W hw 35) (W hw 32) (by decide) (by decide)) (g := (mkF m 5 #[.val (.ref xa), .val (.ref sg), .val (.int n), .val (.double (0 : UInt64)), .second, .unset] [(.ref b1), (.ref b1), (.ref xa)])) rfl (by rw [hml]; rfl) (Steps.refl _) (a := b1) (argsL := []) (rest := [(.ref b1), (.ref xa)]) (lenOf pd_16 rfl) rfl (by show 2 * 0 + _ ≤ _; exact Nat.le_of_eq rfl) (hb hby d4_5) (fun _ _ => ⟨rfl, e1, (by decide : 1 + 1 ≤ _), (by decide : 4 + 16 ≤ _)⟩)
  dsimp only [Pt.U, Pt.locs, Pt.cells, Pt.slots] at X6 l6 y6 z6 st6 hQ6
  subst l6 y6 z6
  obtain ⟨o7, r8, rfl, Nq6, Kq6, P6_0, P6_1, P6_2, P6_3, P6_4, P6_5, P6_6⟩ := hQ6
  have N6 := Fr.app N0 Nq6
  have Ca6k := CHr.keep Kq6 (allS (Safe.exa hZ.alike A1 (by decide) (by decide)) all0) C1.1
  have z6k : h1.size ≤ T6.heap.size := Kq6.1
  have C6k := C1.trans Ca6k
  have sf9 : Safe Z consts_1 s.vm T6.heap o7 := Safe.keep Kq6 (allS (Safe.exa hZ.alike A1 (by decide) (by decide)) all0) C1.1 (Safe.new P6_6)
  have gz10 : h0.size ≤ b1 := by omega
  have K6 : Keep h0 T6.heap [] := K1.trans Kq6 (allS (Or.inr gz10) all0)
  refine Comes.go st6 ?_
  have lt_11 : b1 < T6.heap.size := P6_0.lt
  have lt_12 : o7 < T6.heap.size := P6_4.lt
  show Comes p e below _ (T6.setTop (mkF m 8 #[.val (.ref xa), .val (.ref sg), .val (.int n), .val (.double (0 : UInt64)), .second, .unset] [(.ref b1), (.ref xa)]))
  refine Comes.st (fun t k => XS.aloadN X6.here hx rfl (hb hby d4_8) rfl rfl k) ?_
  show Comes p e below _ (T6.setTop (mkF m 9 #[.val (.ref xa), .val (.ref sg), .val (.int n), .val (.double (0 : UInt64)), .second, .unset] [(.ref sg), (.ref b1), (.ref xa)]))
  have F13 : Exa Z T6.heap sg "java/lang/String" := ((G3.ext E1).keep Kq6)
  have ne14 : sg ≠ b1 := by omega
  have F15 : Fld Z T6.heap sg "java/lang/String" "value" "[B" (.ref sv) := ((G4.ext E1).keep Kq6 (ninS ne14 nin0))
  have F16 : Fld Z T6.heap sg "java/lang/String" "coder" "B" (.int (0 : Int32)) := ((G5.ext E1).keep Kq6 (ninS ne14 nin0))
  have ne17 : sv ≠ b1 := by omega
  have F18 : Arv Z T6.heap sv kv .byte (7 : Int32) vs (.int (0 : Int32)) := ((G6.ext E1).keep Kq6 (ninS ne17 nin0))
  have Od19 : Old Z n0 T6.heap := (Od5.keep Kq6 (allS (by omega) all0))
  have ne20 : sv ≠ o7 := by omega
  have ne21 : b1 ≠ o7 := by omega
  have ne22 : sg ≠ o7 := by omega
  obtain ⟨cq23, kq23, q23a, q23b, q23c⟩ := isOf hZ rfl P6_0
  obtain ⟨_, _, ⟨T23, L23, k23, n23⟩, -, X23, ⟨Lc23, hQ23, l23, y23, z23⟩, st23⟩ := X6.virtualBack hx (y := (⟨"java/lang/StringBuilder", "append", "(Ljava/lang/String;)Ljava/lang/StringBuilder;"⟩ : MethodName)) (z := (⟨"java/lang/StringBuilder", "append", "(Ljava/lang/String;)Ljava/lang/StringBuilder;"⟩ : MethodName)) hown (mvT hZ (W hw 48)) (mvT hZ (W hw 49)) (notFace_of_selects (args := #[]) (mvT hZ (W hw 51))) (mvT hZ (W hw 51)) (mvT hZ (W hw 50)) (by decide) (backOf (W := 1) (ap0_7 l Z a0 hw [] b1 sg sv kv vs cs o7 r8 ([(.int (0 : Int32)), (.int (0 : Int32)), (.int (0 : Int32)), (.int (0 : Int32)), (.int (0 : Int32)), (.int (0 : Int32)), (.int (0 : Int32)), (.int (0 : Int32)), (.int (0 : Int32)), (.int (0 : Int32)), (.int (0 : Int32)), (.int (0 : Int32)), (.int (0 : Int32)), (.int (0 : Int32)), (.int (0 : Int32)), (.int (0 : Int32))]) T6.heap n0 (by omega)  P6_0 P6_1 P6_2 P6_3 F13 F15 F16 F18 P6_4 P6_5 (by first | assumption | rfl) G7 (by assumption) Od19 ne20 (by omega) ne21 ne22 (by omega) ne14 ne17) hZ (W hw 52) (W hw 32) (by decide) (by decide)) q23a q23c (g := (mkF m 9 #[.val (.ref xa), .val (.ref sg), .val (.int n), .val (.double (0 : UInt64)), .second, .unset] [(.ref sg), (.ref b1), (.ref xa)])) rfl (by rw [hml]; rfl) (Steps.refl _) (argsL := [(.ref sg)]) (rest := [(.ref xa)]) (lenOf pd_17 rfl) rfl (by show 2 * 0 + _ ≤ _; exact Nat.le_of_eq rfl) (hb hby d4_9) (fun _ _ => ⟨rfl, rfl, (by decide : 2 + 0 ≤ _), (by decide : 20 + 0 ≤ _)⟩)
  dsimp only [Pt.U, Pt.locs, Pt.cells, Pt.slots] at X23 l23 y23 z23 st23 hQ23
  subst l23 y23 z23
  obtain ⟨r24, rfl, Nq23, Kq23, P23_0, P23_1, P23_2, P23_3, P23_4, P23_5, P23_6⟩ := hQ23
  have N23 := Fr.app N6 Nq23
  have Ca23k := CHr.keep Kq23 (allS (Safe.exa hZ.alike P6_0 (by decide) (by decide)) (allS sf9 all0)) C6k.1
  have z23k : T6.heap.size ≤ T23.heap.size := Kq23.1
  have C23k := C6k.trans Ca23k
  have lsf25 : o7 < T6.heap.size := by omega
  have sf25 := Ca23k.safe lsf25 sf9
  have gz26 : h0.size ≤ o7 := by omega
  have K23 : Keep h0 T23.heap [] := K6.trans Kq23 (allS (Or.inr gz10) (allS (Or.inr gz26) all0))
  refine Comes.go st23 ?_
  show Comes p e below _ (T23.setTop (mkF m 12 #[.val (.ref xa), .val (.ref sg), .val (.int n), .val (.double (0 : UInt64)), .second, .unset] [(.ref b1), (.ref xa)]))
  have sf28 : Safe Z consts_1 s.vm T23.heap b1 := (Safe.exa hZ.alike P23_0 (by decide) (by decide))
  obtain ⟨b27, T27, h27, k27, v27, q27, X27, e27, E27, hS27, hk27, hZ, hown, A27, Fc27, Fv27, V27, lt27, lv27, Ca27, -, Sn27, st27⟩ := ldcCH (s := s) (vm0 := s.vm) X23 hx hZ hown (W hw 98) (fun d hd => by simp only [Bundle.stringAtoms, List.mem_cons, List.not_mem_nil, or_false] at hd; rcases hd with rfl | rfl | rfl | rfl | rfl | rfl | rfl; exact hw _ (List.mem_of_getElem? (i := 12) rfl); exact hw _ (List.mem_of_getElem? (i := 13) rfl); exact hw _ (List.mem_of_getElem? (i := 14) rfl); exact hw _ (List.mem_of_getElem? (i := 15) rfl); exact hw _ (List.mem_of_getElem? (i := 16) rfl); exact hw _ (List.mem_of_getElem? (i := 17) rfl); exact hw _ (List.mem_of_getElem? (i := 18) rfl)) rfl hS0 (Nat.zero_le _) (own_EW hw) (List.mem_of_getElem? (i := 5) rfl) C23k.1 (vs := (own_tx " is null")) (z := (8 : Int32)) ⟨by decide, rfl⟩ (by decide) (by decide) (g := (mkF m 12 #[.val (.ref xa), .val (.ref sg), .val (.int n), .val (.double (0 : UInt64)), .second, .unset] [(.ref b1), (.ref xa)])) rfl (hb hby d4_12) (n := 32) (by decide) (by decide) (by decide) (by decide)
  have z27 : T23.heap.size ≤ h27.size := E27.1
  have C27 := C23k.trans Ca27
  have lsf29 : o7 < T23.heap.size := by omega
  have sf29 := Ca27.safe lsf29 sf25
  have lsf30 : b1 < T23.heap.size := by omega
  have sf30 := Ca27.safe lsf30 sf28
  have K27 : Keep h0 h27 [] := K23.ext E27
  refine Comes.st st27 ?_
  show Comes p e below _ (T27.setTop (mkF m 14 #[.val (.ref xa), .val (.ref sg), .val (.int n), .val (.double (0 : UInt64)), .second, .unset] [(.ref b27), (.ref b1), (.ref xa)]))
  have F31 : Exa Z h27 b1 "java/lang/StringBuilder" := (P23_0.ext E27)
  have F32 : Fld Z h27 b1 "java/lang/AbstractStringBuilder" "value" "[B" (.ref o7) := (P23_1.ext E27)
  have F33 : Fld Z h27 b1 "java/lang/AbstractStringBuilder" "coder" "B" (.int (0 : Int32)) := (P23_2.ext E27)
  have F34 : Fld Z h27 b1 "java/lang/AbstractStringBuilder" "count" "I" (.int (7 : Int32)) := (P23_3.ext E27)
  have F35 : Arv Z h27 o7 r8 .byte (16 : Int32) r24 (.int (0 : Int32)) := (P23_4.ext E27)
  have F36 : Exa Z h27 o7 "[B" := (P23_6.ext E27)
  have Od37 : Old Z n0 h27 := ((Od19.keep Kq23 (allS (by omega) (allS (by omega) all0))).ext E27)
  obtain ⟨cq38, kq38, q38a, q38b, q38c⟩ := isOf hZ e27 F31
  obtain ⟨_, _, ⟨T38, L38, k38, n38⟩, -, X38, ⟨Lc38, hQ38, l38, y38, z38⟩, st38⟩ := X27.virtualBack hx (y := (⟨"java/lang/StringBuilder", "append", "(Ljava/lang/String;)Ljava/lang/StringBuilder;"⟩ : MethodName)) (z := (⟨"java/lang/StringBuilder", "append", "(Ljava/lang/String;)Ljava/lang/StringBuilder;"⟩ : MethodName)) hown (mvT hZ (W hw 48)) (mvT hZ (W hw 49)) (notFace_of_selects (args := #[]) (mvT hZ (W hw 51))) (mvT hZ (W hw 51)) (mvT hZ (W hw 50)) (by decide) (backOf (W := 1) (ap7_8 l Z a0 hw [] b1 b27 v27 q27 ((own_tx " is null")) cs o7 r8 r24 h27 n0 (by omega)  F31 F32 F33 F34 A27 Fv27 Fc27 V27 F35 F36 (by first | assumption | rfl) G7 (by assumption) Od37 (Ne.symm (Sn27 _ sf29).2) (by omega) ne21 (Ne.symm (Sn27 _ sf29).1) (by omega) (Ne.symm (Sn27 _ sf30).1) (Ne.symm (Sn27 _ sf30).2)) hZ (W hw 52) (W hw 32) (by decide) (by decide)) q38a q38c (g := (mkF m 14 #[.val (.ref xa), .val (.ref sg), .val (.int n), .val (.double (0 : UInt64)), .second, .unset] [(.ref b27), (.ref b1), (.ref xa)])) rfl (by rw [hml]; rfl) (Steps.refl _) (argsL := [(.ref b27)]) (rest := [(.ref xa)]) (lenOf pd_17 rfl) rfl (by show 2 * 0 + _ ≤ _; exact Nat.le_of_eq rfl) (hb hby d4_14) (fun _ _ => ⟨rfl, e27, (by decide : 4 + 0 ≤ _), (by decide : 56 + 0 ≤ _)⟩)
  dsimp only [Pt.U, Pt.locs, Pt.cells, Pt.slots] at X38 l38 y38 z38 st38 hQ38
  subst l38 y38 z38
  obtain ⟨r39, rfl, Nq38, Kq38, P38_0, P38_1, P38_2, P38_3, P38_4, P38_5, P38_6⟩ := hQ38
  have N38 := Fr.app N23 Nq38
  have Ca38k := CHr.keep Kq38 (allS sf30 (allS sf29 all0)) C27.1
  have z38k : h27.size ≤ T38.heap.size := Kq38.1
  have C38k := C27.trans Ca38k
  have lsf40 : o7 < h27.size := by omega
  have sf40 := Ca38k.safe lsf40 sf29
  have lsf41 : b1 < h27.size := by omega
  have sf41 := Ca38k.safe lsf41 sf30
  have K38 : Keep h0 T38.heap [] := K27.trans Kq38 (allS (Or.inr gz10) (allS (Or.inr gz26) all0))
  refine Comes.go st38 ?_
  show Comes p e below _ (T38.setTop (mkF m 17 #[.val (.ref xa), .val (.ref sg), .val (.int n), .val (.double (0 : UInt64)), .second, .unset] [(.ref b1), (.ref xa)]))
  have Od42 : Old Z n0 T38.heap := (Od37.keep Kq38 (allS (by omega) (allS (by omega) all0)))
  obtain ⟨cq43, kq43, q43a, q43b, q43c⟩ := isOf hZ rfl P38_0
  obtain ⟨_, _, ⟨T43, L43, k43, n43⟩, -, X43, ⟨Lc43, hQ43, l43, y43, z43⟩, st43⟩ := X38.virtualBack hx (y := (⟨"java/lang/StringBuilder", "toString", "()Ljava/lang/String;"⟩ : MethodName)) (z := (⟨"java/lang/StringBuilder", "toString", "()Ljava/lang/String;"⟩ : MethodName)) hown (mvT hZ (W hw 99)) (mvT hZ (W hw 100)) (notFace_of_selects (args := #[]) (mvT hZ (W hw 102))) (mvT hZ (W hw 102)) (mvT hZ (W hw 101)) (by decide) (backOf (W := 1) (ts15 l Z a0 hw [] b1 o7 r8 r39 cs T38.heap n0 (by omega)  P38_0 P38_1 P38_2 P38_3 P38_4 P38_6 (by first | assumption | rfl) G7 (by assumption) Od42) hZ (W hw 103) (W hw 32) (by decide) (by decide)) q43a q43c (g := (mkF m 17 #[.val (.ref xa), .val (.ref sg), .val (.int n), .val (.double (0 : UInt64)), .second, .unset] [(.ref b1), (.ref xa)])) rfl (by rw [hml]; rfl) (Steps.refl _) (argsL := []) (rest := [(.ref xa)]) (lenOf pd_18 rfl) rfl (by show 2 * 0 + _ ≤ _; exact Nat.le_of_eq rfl) (hb hby d4_17) (fun _ _ => ⟨rfl, rfl, (by decide : 4 + 2 ≤ _), (by decide : 56 + 19 ≤ _)⟩)
  dsimp only [Pt.U, Pt.locs, Pt.cells, Pt.slots] at X43 l43 y43 z43 st43 hQ43
  subst l43 y43 z43
  obtain ⟨o44, rfl, Nq43, Kq43, P43_0⟩ := hQ43
  have N43 := Fr.app N38 Nq43
  have Ca43k := CHr.keep Kq43 all0 C38k.1
  have z43k : T38.heap.size ≤ T43.heap.size := Kq43.1
  have C43k := C38k.trans Ca43k
  have lsf45 : o7 < T38.heap.size := by omega
  have sf45 := Ca43k.safe lsf45 sf40
  have lsf46 : b1 < T38.heap.size := by omega
  have sf46 := Ca43k.safe lsf46 sf41
  have K43 : Keep h0 T43.heap [] := K38.trans Kq43 all0
  refine Comes.go st43 ?_
  have lt_47 : o44 < T43.heap.size := P43_0.lt
  show Comes p e below _ (T43.setTop (mkF m 20 #[.val (.ref xa), .val (.ref sg), .val (.int n), .val (.double (0 : UInt64)), .second, .unset] [(.ref o44), (.ref xa)]))
  obtain ⟨_, _, ⟨T48, L48, k48, n48⟩, -, X48, ⟨Lc48, hQ48, l48, y48, z48⟩, st48⟩ := Jvm.LawKit.callS X43 hx (y := (⟨"java/util/Objects", "requireNonNull", "(Ljava/lang/Object;Ljava/lang/String;)Ljava/lang/Object;"⟩ : MethodName)) hown (mvT hZ (W hw 146)) (mvT hZ (W hw 20)) (mvT hZ (W hw 21)) (mvT hZ (W hw 22)) (by decide) (backOf (W := 0) (rm3 l Z a0 hw [] xa o44 T43.heap n0 (by omega)  ) hZ (W hw 22) (W hw 21) (by decide) (by decide)) (g := (mkF m 20 #[.val (.ref xa), .val (.ref sg), .val (.int n), .val (.double (0 : UInt64)), .second, .unset] [(.ref o44), (.ref xa)])) rfl (by rw [hml]; rfl) (argsL := [(.ref xa), (.ref o44)]) (rest := []) (lenOf pd_19 rfl) rfl (by show 2 * 0 + _ ≤ _; exact Nat.le_of_eq rfl) (hb hby d4_20) (fun _ _ => ⟨rfl, rfl, (by decide : 6 + 0 ≤ _), (by decide : 75 + 0 ≤ _)⟩)
  dsimp only [Pt.U, Pt.locs, Pt.cells, Pt.slots] at X48 l48 y48 z48 st48 hQ48
  subst l48 y48 z48
  obtain ⟨rfl, Nq48, hs48⟩ := hQ48
  have N48 := Fr.app N43 Nq48
  refine Comes.st st48 ?_
  show Comes p e below _ (T48.setTop (mkF m 23 #[.val (.ref xa), .val (.ref sg), .val (.int n), .val (.double (0 : UInt64)), .second, .unset] [(.ref xa)]))
  refine Comes.st (fun t k => XS.pop X48.here hx rfl (hb hby d4_23) rfl rfl (XS.aloadN X48.here hx rfl (hb hby d4_24) rfl rfl k)) ?_
  show Comes p e below _ (T48.setTop (mkF m 25 #[.val (.ref xa), .val (.ref sg), .val (.int n), .val (.double (0 : UInt64)), .second, .unset] [(.ref xa)]))
  have ne49 : xa ≠ b1 := by omega
  have ne50 : xa ≠ o7 := by omega
  have F51 : Arv Z T43.heap xa ka .double n [] (.double (0 : UInt64)) := ((((((G0.ext E1).keep Kq6 (ninS ne49 nin0)).keep Kq23 (ninS ne49 (ninS ne50 nin0))).ext E27).keep Kq38 (ninS ne49 (ninS ne50 nin0))).keep Kq43 nin0)
  obtain ⟨cl52, Ar52, -, S52, Ng52, -, -⟩ := id F51
  refine Comes.st (fun t k => X48.arraylength hx (by rw [hs48]; exact Ar52.1) (State.isArrayOf_alike hZ.alike Ar52.2.1) (g := (mkF m 25 #[.val (.ref xa), .val (.ref sg), .val (.int n), .val (.double (0 : UInt64)), .second, .unset] [(.ref xa)])) rfl rfl (hb hby d4_25) _ k) ?_
  rw [len_of S52 Ng52]
  show Comes p e below _ (T48.setTop (mkF m 26 #[.val (.ref xa), .val (.ref sg), .val (.int n), .val (.double (0 : UInt64)), .second, .unset] [(.int n)]))
  refine Comes.st (fun t k => XS.iloadN X48.here hx rfl (hb hby d4_26) rfl k) ?_
  show Comes p e below _ (T48.setTop (mkF m 27 #[.val (.ref xa), .val (.ref sg), .val (.int n), .val (.double (0 : UInt64)), .second, .unset] [(.int n), (.int n)]))
  have hc27_53 : n = n := by rfl
  refine Comes.st (fun t k => XS.icmpYes X48.here hx rfl (pc0 := 27) (pc' := 71) rfl (hb hby d4_27) rfl (teq hc27_53).1 (by decide) (by decide) (XS.aloadN X48.here hx rfl (hb hby d4_71) rfl rfl (XS.dloadN X48.here hx rfl (hb hby d4_72) rfl k))) ?_
  show Comes p e below _ (T48.setTop (mkF m 73 #[.val (.ref xa), .val (.ref sg), .val (.int n), .val (.double (0 : UInt64)), .second, .unset] [(.double (0 : UInt64)), (.ref xa)]))
  obtain ⟨_, _, ⟨T54, L54, k54, n54⟩, -, X54, ⟨Lc54, hQ54, l54, y54, z54⟩, st54⟩ := Jvm.LawKit.callS X48 hx (y := (⟨"com/example/ordr/ordr/model/Layout", "firstBelow", "([DD)I"⟩ : MethodName)) hown (mvT hZ (W hw 147)) (mvT hZ (W hw 148)) (mvT hZ (W hw 28)) (mvT hZ (W hw 149)) (by decide) (backOf (W := 0) (fbG l Z a0 hw [] xa ((0 : UInt64)) ka ((0 : Int32)) n T43.heap n0 (by omega)  F51 (by first | assumption | exact rfl | decide +kernel | decide) (by first | assumption | exact rfl | decide +kernel | decide) (by first | assumption | exact rfl | decide +kernel | decide)) hZ (W hw 149) (W hw 28) (by decide) (by decide)) (g := (mkF m 73 #[.val (.ref xa), .val (.ref sg), .val (.int n), .val (.double (0 : UInt64)), .second, .unset] [(.double (0 : UInt64)), (.ref xa)])) rfl (by rw [hml]; rfl) (argsL := [(.ref xa), (.double (0 : UInt64))]) (rest := []) (lenOf pd_20 rfl) rfl (by show 2 * 0 + _ ≤ _; exact Nat.le_of_eq rfl) (hb hby d4_73) (fun _ _ => ⟨rfl, hs48, (by decide : 6 + 0 ≤ _), (by decide : 75 + 0 ≤ _)⟩)
  dsimp only [Pt.U, Pt.locs, Pt.cells, Pt.slots] at X54 l54 y54 z54 st54 hQ54
  subst l54 y54 z54
  obtain ⟨rfl, Nq54, hs54⟩ := hQ54
  have N54 := Fr.app N48 Nq54
  refine Comes.st st54 ?_
  show Comes p e below _ (T54.setTop (mkF m 76 #[.val (.ref xa), .val (.ref sg), .val (.int n), .val (.double (0 : UInt64)), .second, .unset] [(.int (-1 : Int32))]))
  refine Comes.st (fun t k => XS.istore X54.here hx rfl (hb hby d4_76) rfl (l' := #[.val (.ref xa), .val (.ref sg), .val (.int n), .val (.double (0 : UInt64)), .second, .val (.int (-1 : Int32))]) rfl (XS.iload X54.here hx rfl (hb hby d4_78) rfl k)) ?_
  show Comes p e below _ (T54.setTop (mkF m 80 #[.val (.ref xa), .val (.ref sg), .val (.int n), .val (.double (0 : UInt64)), .second, .val (.int (-1 : Int32))] [(.int (-1 : Int32))]))
  have hc80_55 : (-1 : Int32) < (0 : Int32) := by decide
  refine Comes.st (fun t k => XS.ifYes X54.here hx rfl (pc0 := 80) (pc' := 127) rfl (hb hby d4_80) rfl ((if0 _ _).trans (tlt hc80_55).1) (by decide) (by decide) (XS.aloadN X54.here hx rfl (hb hby d4_127) rfl rfl k)) ?_
  show Comes p e below _ (T54.setTop (mkF m 128 #[.val (.ref xa), .val (.ref sg), .val (.int n), .val (.double (0 : UInt64)), .second, .val (.int (-1 : Int32))] [(.ref xa)]))
  have F56 : Exa Z T43.heap xa "[D" := ((((((G1.ext E1).keep Kq6).keep Kq23).ext E27).keep Kq38).keep Kq43)
  obtain ⟨T57, h57, X57, e57, E57, V57, Ex57, st57⟩ := cloneH X54 hx hZ hown (W hw 150) (W hw 151) (W hw 155) (W hw 153) (W hw 154) (W hw 156) hs54 (Arv.arh F51) F56 (g := (mkF m 128 #[.val (.ref xa), .val (.ref sg), .val (.int n), .val (.double (0 : UInt64)), .second, .val (.int (-1 : Int32))] [(.ref xa)])) rfl (by rw [hml]; rfl) rfl (hb hby d4_128) (by decide) (W := 0) (by show 2 * 0 + _ ≤ _; exact Nat.le_of_eq rfl) (by decide) (cap := 7) (by exact own_n7 (by assumption)) (by decide) (by decide)
  obtain ⟨b57, g57⟩ : ∃ z, z = T43.heap.size := ⟨_, rfl⟩
  rw [← g57] at V57 Ex57 st57
  have Ca57 := CHr.ext E57 C43k.1
  have z57 : T43.heap.size ≤ h57.size := E57.1
  have C57 := C43k.trans Ca57
  have lsf58 : o7 < T43.heap.size := by omega
  have sf58 := Ca57.safe lsf58 sf45
  have lsf59 : b1 < T43.heap.size := by omega
  have sf59 := Ca57.safe lsf59 sf46
  have lt57 : b57 < h57.size := V57.lt
  have V57' : Arv Z h57 b57 ka .double n [] (.double (0 : UInt64)) := V57
  have K57 : Keep h0 h57 [] := K43.ext E57
  refine Comes.st st57 ?_
  show Comes p e below _ (T57.setTop (mkF m 131 #[.val (.ref xa), .val (.ref sg), .val (.int n), .val (.double (0 : UInt64)), .second, .val (.int (-1 : Int32))] [(.ref b57)]))
  obtain ⟨T60, X60, e60, st60⟩ := castY X57 hx hZ hown (W hw 157) e57 (Ins.self Ex57) (g := (mkF m 131 #[.val (.ref xa), .val (.ref sg), .val (.int n), .val (.double (0 : UInt64)), .second, .val (.int (-1 : Int32))] [(.ref b57)])) rfl rfl (hb hby d4_131)
  refine Comes.st st60 ?_
  show Comes p e below _ (T60.setTop (mkF m 134 #[.val (.ref xa), .val (.ref sg), .val (.int n), .val (.double (0 : UInt64)), .second, .val (.int (-1 : Int32))] [(.ref b57)]))
  have hkf : k27 ≤ h57.size := by omega
  exact Comes.hretV X60 hx Bd.returns (narrow_ref rfl) (Or.inr (Or.inr (Or.inr (Or.inr ⟨rfl, rfl, rfl⟩)))) hlk (hb hby d4_134) hS27 hkf e60 ⟨b57, ka, rfl, N54, K57, V57', Ex57, (by omega)⟩ (by decide) (by decide) (by rw [hh]; exact C57) hZ (own_EW hw)
def Q_ck8 (Z : State) (xa sg : Nat) (n : Int32) (ka : ClassId) (sv : Nat) (kv : ClassId) (vs : List Value) (cs : Int32) (h0 : Heap) (n0 : Nat) (v_ : Option Value) (h : Heap) (L_ : List Loc) : Prop := ∃ (r : Nat), ∃ (kr : ClassId), (v_ = some (.ref r)) ∧ (Fr n0 L_) ∧ (Keep h0 h []) ∧ (Arv Z h r kr .double n [] (.double (0 : UInt64))) ∧ (Exa Z h r "[D") ∧ (h0.size ≤ r)
theorem ck8 (l : Launch) (Z : State) (a0 : Array Value) (hw : ∀ d ∈ tables_1, d.before a0 Z = true) (ws : List Jvm.Cond) (xa sg : Nat) (n : Int32) (ka : ClassId) (sv : Nat) (kv : ClassId) (vs : List Value) (cs : Int32) (h0 : Heap) (n0 : Nat) (Z0 : n0 ≤ h0.size) (G0 : Arv Z h0 xa ka .double n [] (.double (0 : UInt64))) (G1 : Exa Z h0 xa "[D") (G2 : 0 ≤ n.toInt ∧ n.toInt ≤ 7) (G3 : Exa Z h0 sg "java/lang/String") (G4 : Fld Z h0 sg "java/lang/String" "value" "[B" (.ref sv)) (G5 : Fld Z h0 sg "java/lang/String" "coder" "B" (.int (0 : Int32))) (G6 : Arv Z h0 sv kv .byte (8 : Int32) vs (.int (0 : Int32))) (G7 : Sta Z Z.heap "java/lang/String" "COMPACT_STRINGS" "Z" (.int cs)) (G8 : ¬ (cs = (0 : Int32))) (G9 : Old Z n0 h0) :
    MetFree l (⟨"com/example/ordr/ordr/model/Layout", "checked", "([DLjava/lang/String;ID)[D"⟩ : MethodName) (head1 (Jvm.Cond.code (⟨"com/example/ordr/ordr/model/Layout", "checked", "([DLjava/lang/String;ID)[D"⟩ : MethodName) prog_86_method_17_code 6 (some (.array .double)) :: ws) (Rm 5 7 83 84)) (fun a_ U_ => a_ = #[(.ref xa), (.ref sg), (.int n), (.double (18442240474082181120 : UInt64))] ∧ Z.Warmed39 U_.vm ∧ U_.heap = h0 ∧ CHv Z consts_1 U_.vm h0) (fun _ _ _ _ _ => True) (fun _ U_ o_ V_ => ∃ v_ L_, o_ = .returned v_ ∧ Q_ck8 Z xa sg n ka sv kv vs cs h0 n0 v_ V_.heap L_ ∧ CHr Z consts_1 U_.vm U_.heap V_.vm V_.heap ∧ ReturnedEndW U_ o_ V_ L_ (Rm 5 7 83 84).cells (Rm 5 7 83 84).slots) := by
  refine MetFree.of_bodySF (plainFor_of_name pn_4) hisR ?_
  intro p e s m args below meth c s₁ Bd hml0 hP hK
  obtain ⟨rfl, hZ, hh, hC0⟩ := hP
  have hx := Bd.exec
  have hby := Bd.bytes
  have hml : c.maxLocals = 6 := hml0
  have hown : s.vm.findClass "com/example/ordr/ordr/model/Layout" = some m.cls := findClass_of_methodNamed Bd.named
  have hnm := (name_of_methodNamed Bd.named Bd.method).1
  have hlk : meth.locks = false := Bd.notSynchronized
  have X0 : Stand p l e (Rm 5 7 83 84) s m #[(.ref xa), (.ref sg), (.int n), (.double (18442240474082181120 : UInt64))] below meth c s₁ [] 0 0 := Stand.of_body Bd
  have e0 : s₁.heap = h0 := by rw [← hh, Bd.state]; rfl
  have N0 := Fr.nil n0
  have X0 := own_base X0
  have hZ : Z.Warmed39 (s.setVm s.vm).vm := hZ
  have C0 := CHr.refl hC0
  have hS0 : s.Since s.vm 0 := (State.WarmedH.refl s).since 0
  have K0 := Keep.refl h0 []
  refine Comes.outH (EL := consts_1) (Z := Z) (Q := Q_ck8 Z xa sg n ka sv kv vs cs h0 n0) (kc := (Rm 5 7 83 84).cells) (ks := (Rm 5 7 83 84).slots) ?_
  refine Comes.cast (ef_ck8 m xa sg n) ?_
  have lt_xa : xa < h0.size := G0.lt
  have lt_sg : sg < h0.size := G3.lt
  have lt_sv : sv < h0.size := G6.lt
  show Comes p e below _ (s₁.setTop (mkF m 0 #[.val (.ref xa), .val (.ref sg), .val (.int n), .val (.double (18442240474082181120 : UInt64)), .second, .unset] []))
  refine Comes.st (fun t k => XS.aloadN X0.here hx rfl (hb hby d4_0) rfl rfl k) ?_
  show Comes p e below _ (s₁.setTop (mkF m 1 #[.val (.ref xa), .val (.ref sg), .val (.int n), .val (.double (18442240474082181120 : UInt64)), .second, .unset] [(.ref xa)]))
  obtain ⟨T1, h1, X1, e1, E1, A1, D1, -, st1⟩ := newO X0 hx hZ hown (W hw 30) (W hw 31) (W hw 32) e0 (g := (mkF m 1 #[.val (.ref xa), .val (.ref sg), .val (.int n), .val (.double (18442240474082181120 : UInt64)), .second, .unset] [(.ref xa)])) rfl (hb hby d4_1) (by decide) (by decide)
  obtain ⟨b1, g1⟩ : ∃ z, z = h0.size := ⟨_, rfl⟩
  rw [← g1] at A1 D1 st1
  have Ca1 := CHr.ext E1 C0.1
  have z1 : h0.size ≤ h1.size := E1.1
  have C1 := C0.trans Ca1
  have lt1 : b1 < h1.size := A1.lt
  have F2 : Fld Z h1 b1 "java/lang/AbstractStringBuilder" "value" "[B" .null := D1 (Or.inl (W hw 45)) (ty := (.array .byte)) (by decide)
  have F3 : Fld Z h1 b1 "java/lang/AbstractStringBuilder" "coder" "B" (.int (0 : Int32)) := D1 (Or.inl (W hw 47)) (ty := .byte) (by decide)
  have F4 : Fld Z h1 b1 "java/lang/AbstractStringBuilder" "count" "I" (.int (0 : Int32)) := D1 (Or.inl (W hw 72)) (ty := .int) (by decide)
  have K1 : Keep h0 h1 [] := K0.ext E1
  refine Comes.st st1 ?_
  show Comes p e below _ (T1.setTop (mkF m 4 #[.val (.ref xa), .val (.ref sg), .val (.int n), .val (.double (18442240474082181120 : UInt64)), .second, .unset] [(.ref b1), (.ref xa)]))
  refine Comes.st (fun t k => XS.dup X1.here hx rfl (hb hby d4_4) rfl rfl k) ?_
  show Comes p e below _ (T1.setTop (mkF m 5 #[.val (.ref xa), .val (.ref sg), .val (.int n), .val (.double (18442240474082181120 : UInt64)), .second, .unset] [(.ref b1), (.ref b1), (.ref xa)]))
  have Od5 : Old Z n0 h1 := (G9.ext E1)
  obtain ⟨_, _, ⟨T6, L6, k6, n6⟩, -, X6, ⟨Lc6, hQ6, l6, y6, z6⟩, st6⟩ := X1.specialBack hx (y := (⟨"java/lang/StringBuilder", "<init>", "()V"⟩ : MethodName)) rfl hown (mvT hZ (W hw 33)) (mvT hZ (W hw 34)) (mvT hZ (W hw 35)) (by decide) (backOf (W := 2) (rm5 l Z a0 hw [] b1 cs h1 n0 (by omega)  A1 F2 F3 F4 G7 (by assumption) Od5 (by omega)) hZ (W hw 35) (W hw 32) (by decide) (by decide)) (g := (mkF m 5 #[.val (.ref xa), .val (.ref sg), .val (.int n), .val (.double (18442240474082181120 : UInt64)), .second, .unset] [(.ref b1), (.ref b1), (.ref xa)])) rfl (by rw [hml]; rfl) (Steps.refl _) (a := b1) (argsL := []) (rest := [(.ref b1), (.ref xa)]) (lenOf pd_16 rfl) rfl (by show 2 * 0 + _ ≤ _; exact Nat.le_of_eq rfl) (hb hby d4_5) (fun _ _ => ⟨rfl, e1, (by decide : 1 + 1 ≤ _), (by decide : 4 + 16 ≤ _)⟩)
  dsimp only [Pt.U, Pt.locs, Pt.cells, Pt.slots] at X6 l6 y6 z6 st6 hQ6
  subst l6 y6 z6
  obtain ⟨o7, r8, rfl, Nq6, Kq6, P6_0, P6_1, P6_2, P6_3, P6_4, P6_5, P6_6⟩ := hQ6
  have N6 := Fr.app N0 Nq6
  have Ca6k := CHr.keep Kq6 (allS (Safe.exa hZ.alike A1 (by decide) (by decide)) all0) C1.1
  have z6k : h1.size ≤ T6.heap.size := Kq6.1
  have C6k := C1.trans Ca6k
  have sf9 : Safe Z consts_1 s.vm T6.heap o7 := Safe.keep Kq6 (allS (Safe.exa hZ.alike A1 (by decide) (by decide)) all0) C1.1 (Safe.new P6_6)
  have gz10 : h0.size ≤ b1 := by omega
  have K6 : Keep h0 T6.heap [] := K1.trans Kq6 (allS (Or.inr gz10) all0)
  refine Comes.go st6 ?_
  have lt_11 : b1 < T6.heap.size := P6_0.lt
  have lt_12 : o7 < T6.heap.size := P6_4.lt
  show Comes p e below _ (T6.setTop (mkF m 8 #[.val (.ref xa), .val (.ref sg), .val (.int n), .val (.double (18442240474082181120 : UInt64)), .second, .unset] [(.ref b1), (.ref xa)]))
  refine Comes.st (fun t k => XS.aloadN X6.here hx rfl (hb hby d4_8) rfl rfl k) ?_
  show Comes p e below _ (T6.setTop (mkF m 9 #[.val (.ref xa), .val (.ref sg), .val (.int n), .val (.double (18442240474082181120 : UInt64)), .second, .unset] [(.ref sg), (.ref b1), (.ref xa)]))
  have F13 : Exa Z T6.heap sg "java/lang/String" := ((G3.ext E1).keep Kq6)
  have ne14 : sg ≠ b1 := by omega
  have F15 : Fld Z T6.heap sg "java/lang/String" "value" "[B" (.ref sv) := ((G4.ext E1).keep Kq6 (ninS ne14 nin0))
  have F16 : Fld Z T6.heap sg "java/lang/String" "coder" "B" (.int (0 : Int32)) := ((G5.ext E1).keep Kq6 (ninS ne14 nin0))
  have ne17 : sv ≠ b1 := by omega
  have F18 : Arv Z T6.heap sv kv .byte (8 : Int32) vs (.int (0 : Int32)) := ((G6.ext E1).keep Kq6 (ninS ne17 nin0))
  have Od19 : Old Z n0 T6.heap := (Od5.keep Kq6 (allS (by omega) all0))
  have ne20 : sv ≠ o7 := by omega
  have ne21 : b1 ≠ o7 := by omega
  have ne22 : sg ≠ o7 := by omega
  obtain ⟨cq23, kq23, q23a, q23b, q23c⟩ := isOf hZ rfl P6_0
  obtain ⟨_, _, ⟨T23, L23, k23, n23⟩, -, X23, ⟨Lc23, hQ23, l23, y23, z23⟩, st23⟩ := X6.virtualBack hx (y := (⟨"java/lang/StringBuilder", "append", "(Ljava/lang/String;)Ljava/lang/StringBuilder;"⟩ : MethodName)) (z := (⟨"java/lang/StringBuilder", "append", "(Ljava/lang/String;)Ljava/lang/StringBuilder;"⟩ : MethodName)) hown (mvT hZ (W hw 48)) (mvT hZ (W hw 49)) (notFace_of_selects (args := #[]) (mvT hZ (W hw 51))) (mvT hZ (W hw 51)) (mvT hZ (W hw 50)) (by decide) (backOf (W := 1) (ap0_8 l Z a0 hw [] b1 sg sv kv vs cs o7 r8 ([(.int (0 : Int32)), (.int (0 : Int32)), (.int (0 : Int32)), (.int (0 : Int32)), (.int (0 : Int32)), (.int (0 : Int32)), (.int (0 : Int32)), (.int (0 : Int32)), (.int (0 : Int32)), (.int (0 : Int32)), (.int (0 : Int32)), (.int (0 : Int32)), (.int (0 : Int32)), (.int (0 : Int32)), (.int (0 : Int32)), (.int (0 : Int32))]) T6.heap n0 (by omega)  P6_0 P6_1 P6_2 P6_3 F13 F15 F16 F18 P6_4 P6_5 (by first | assumption | rfl) G7 (by assumption) Od19 ne20 (by omega) ne21 ne22 (by omega) ne14 ne17) hZ (W hw 52) (W hw 32) (by decide) (by decide)) q23a q23c (g := (mkF m 9 #[.val (.ref xa), .val (.ref sg), .val (.int n), .val (.double (18442240474082181120 : UInt64)), .second, .unset] [(.ref sg), (.ref b1), (.ref xa)])) rfl (by rw [hml]; rfl) (Steps.refl _) (argsL := [(.ref sg)]) (rest := [(.ref xa)]) (lenOf pd_17 rfl) rfl (by show 2 * 0 + _ ≤ _; exact Nat.le_of_eq rfl) (hb hby d4_9) (fun _ _ => ⟨rfl, rfl, (by decide : 2 + 0 ≤ _), (by decide : 20 + 0 ≤ _)⟩)
  dsimp only [Pt.U, Pt.locs, Pt.cells, Pt.slots] at X23 l23 y23 z23 st23 hQ23
  subst l23 y23 z23
  obtain ⟨r24, rfl, Nq23, Kq23, P23_0, P23_1, P23_2, P23_3, P23_4, P23_5, P23_6⟩ := hQ23
  have N23 := Fr.app N6 Nq23
  have Ca23k := CHr.keep Kq23 (allS (Safe.exa hZ.alike P6_0 (by decide) (by decide)) (allS sf9 all0)) C6k.1
  have z23k : T6.heap.size ≤ T23.heap.size := Kq23.1
  have C23k := C6k.trans Ca23k
  have lsf25 : o7 < T6.heap.size := by omega
  have sf25 := Ca23k.safe lsf25 sf9
  have gz26 : h0.size ≤ o7 := by omega
  have K23 : Keep h0 T23.heap [] := K6.trans Kq23 (allS (Or.inr gz10) (allS (Or.inr gz26) all0))
  refine Comes.go st23 ?_
  show Comes p e below _ (T23.setTop (mkF m 12 #[.val (.ref xa), .val (.ref sg), .val (.int n), .val (.double (18442240474082181120 : UInt64)), .second, .unset] [(.ref b1), (.ref xa)]))
  have sf28 : Safe Z consts_1 s.vm T23.heap b1 := (Safe.exa hZ.alike P23_0 (by decide) (by decide))
  obtain ⟨b27, T27, h27, k27, v27, q27, X27, e27, E27, hS27, hk27, hZ, hown, A27, Fc27, Fv27, V27, lt27, lv27, Ca27, -, Sn27, st27⟩ := ldcCH (s := s) (vm0 := s.vm) X23 hx hZ hown (W hw 98) (fun d hd => by simp only [Bundle.stringAtoms, List.mem_cons, List.not_mem_nil, or_false] at hd; rcases hd with rfl | rfl | rfl | rfl | rfl | rfl | rfl; exact hw _ (List.mem_of_getElem? (i := 12) rfl); exact hw _ (List.mem_of_getElem? (i := 13) rfl); exact hw _ (List.mem_of_getElem? (i := 14) rfl); exact hw _ (List.mem_of_getElem? (i := 15) rfl); exact hw _ (List.mem_of_getElem? (i := 16) rfl); exact hw _ (List.mem_of_getElem? (i := 17) rfl); exact hw _ (List.mem_of_getElem? (i := 18) rfl)) rfl hS0 (Nat.zero_le _) (own_EW hw) (List.mem_of_getElem? (i := 5) rfl) C23k.1 (vs := (own_tx " is null")) (z := (8 : Int32)) ⟨by decide, rfl⟩ (by decide) (by decide) (g := (mkF m 12 #[.val (.ref xa), .val (.ref sg), .val (.int n), .val (.double (18442240474082181120 : UInt64)), .second, .unset] [(.ref b1), (.ref xa)])) rfl (hb hby d4_12) (n := 32) (by decide) (by decide) (by decide) (by decide)
  have z27 : T23.heap.size ≤ h27.size := E27.1
  have C27 := C23k.trans Ca27
  have lsf29 : o7 < T23.heap.size := by omega
  have sf29 := Ca27.safe lsf29 sf25
  have lsf30 : b1 < T23.heap.size := by omega
  have sf30 := Ca27.safe lsf30 sf28
  have K27 : Keep h0 h27 [] := K23.ext E27
  refine Comes.st st27 ?_
  show Comes p e below _ (T27.setTop (mkF m 14 #[.val (.ref xa), .val (.ref sg), .val (.int n), .val (.double (18442240474082181120 : UInt64)), .second, .unset] [(.ref b27), (.ref b1), (.ref xa)]))
  have F31 : Exa Z h27 b1 "java/lang/StringBuilder" := (P23_0.ext E27)
  have F32 : Fld Z h27 b1 "java/lang/AbstractStringBuilder" "value" "[B" (.ref o7) := (P23_1.ext E27)
  have F33 : Fld Z h27 b1 "java/lang/AbstractStringBuilder" "coder" "B" (.int (0 : Int32)) := (P23_2.ext E27)
  have F34 : Fld Z h27 b1 "java/lang/AbstractStringBuilder" "count" "I" (.int (8 : Int32)) := (P23_3.ext E27)
  have F35 : Arv Z h27 o7 r8 .byte (16 : Int32) r24 (.int (0 : Int32)) := (P23_4.ext E27)
  have F36 : Exa Z h27 o7 "[B" := (P23_6.ext E27)
  have Od37 : Old Z n0 h27 := ((Od19.keep Kq23 (allS (by omega) (allS (by omega) all0))).ext E27)
  obtain ⟨cq38, kq38, q38a, q38b, q38c⟩ := isOf hZ e27 F31
  obtain ⟨_, _, ⟨T38, L38, k38, n38⟩, -, X38, ⟨Lc38, hQ38, l38, y38, z38⟩, st38⟩ := X27.virtualBack hx (y := (⟨"java/lang/StringBuilder", "append", "(Ljava/lang/String;)Ljava/lang/StringBuilder;"⟩ : MethodName)) (z := (⟨"java/lang/StringBuilder", "append", "(Ljava/lang/String;)Ljava/lang/StringBuilder;"⟩ : MethodName)) hown (mvT hZ (W hw 48)) (mvT hZ (W hw 49)) (notFace_of_selects (args := #[]) (mvT hZ (W hw 51))) (mvT hZ (W hw 51)) (mvT hZ (W hw 50)) (by decide) (backOf (W := 1) (ap8_8 l Z a0 hw [] b1 b27 v27 q27 ((own_tx " is null")) cs o7 r8 r24 h27 n0 (by omega)  F31 F32 F33 F34 A27 Fv27 Fc27 V27 F35 F36 (by first | assumption | rfl) G7 (by assumption) Od37 (Ne.symm (Sn27 _ sf29).2) (by omega) ne21 (Ne.symm (Sn27 _ sf29).1) (by omega) (Ne.symm (Sn27 _ sf30).1) (Ne.symm (Sn27 _ sf30).2)) hZ (W hw 52) (W hw 32) (by decide) (by decide)) q38a q38c (g := (mkF m 14 #[.val (.ref xa), .val (.ref sg), .val (.int n), .val (.double (18442240474082181120 : UInt64)), .second, .unset] [(.ref b27), (.ref b1), (.ref xa)])) rfl (by rw [hml]; rfl) (Steps.refl _) (argsL := [(.ref b27)]) (rest := [(.ref xa)]) (lenOf pd_17 rfl) rfl (by show 2 * 0 + _ ≤ _; exact Nat.le_of_eq rfl) (hb hby d4_14) (fun _ _ => ⟨rfl, e27, (by decide : 4 + 0 ≤ _), (by decide : 56 + 0 ≤ _)⟩)
  dsimp only [Pt.U, Pt.locs, Pt.cells, Pt.slots] at X38 l38 y38 z38 st38 hQ38
  subst l38 y38 z38
  obtain ⟨r39, rfl, Nq38, Kq38, P38_0, P38_1, P38_2, P38_3, P38_4, P38_5, P38_6⟩ := hQ38
  have N38 := Fr.app N23 Nq38
  have Ca38k := CHr.keep Kq38 (allS sf30 (allS sf29 all0)) C27.1
  have z38k : h27.size ≤ T38.heap.size := Kq38.1
  have C38k := C27.trans Ca38k
  have lsf40 : o7 < h27.size := by omega
  have sf40 := Ca38k.safe lsf40 sf29
  have lsf41 : b1 < h27.size := by omega
  have sf41 := Ca38k.safe lsf41 sf30
  have K38 : Keep h0 T38.heap [] := K27.trans Kq38 (allS (Or.inr gz10) (allS (Or.inr gz26) all0))
  refine Comes.go st38 ?_
  show Comes p e below _ (T38.setTop (mkF m 17 #[.val (.ref xa), .val (.ref sg), .val (.int n), .val (.double (18442240474082181120 : UInt64)), .second, .unset] [(.ref b1), (.ref xa)]))
  have Od42 : Old Z n0 T38.heap := (Od37.keep Kq38 (allS (by omega) (allS (by omega) all0)))
  obtain ⟨cq43, kq43, q43a, q43b, q43c⟩ := isOf hZ rfl P38_0
  obtain ⟨_, _, ⟨T43, L43, k43, n43⟩, -, X43, ⟨Lc43, hQ43, l43, y43, z43⟩, st43⟩ := X38.virtualBack hx (y := (⟨"java/lang/StringBuilder", "toString", "()Ljava/lang/String;"⟩ : MethodName)) (z := (⟨"java/lang/StringBuilder", "toString", "()Ljava/lang/String;"⟩ : MethodName)) hown (mvT hZ (W hw 99)) (mvT hZ (W hw 100)) (notFace_of_selects (args := #[]) (mvT hZ (W hw 102))) (mvT hZ (W hw 102)) (mvT hZ (W hw 101)) (by decide) (backOf (W := 1) (ts16 l Z a0 hw [] b1 o7 r8 r39 cs T38.heap n0 (by omega)  P38_0 P38_1 P38_2 P38_3 P38_4 P38_6 (by first | assumption | rfl) G7 (by assumption) Od42) hZ (W hw 103) (W hw 32) (by decide) (by decide)) q43a q43c (g := (mkF m 17 #[.val (.ref xa), .val (.ref sg), .val (.int n), .val (.double (18442240474082181120 : UInt64)), .second, .unset] [(.ref b1), (.ref xa)])) rfl (by rw [hml]; rfl) (Steps.refl _) (argsL := []) (rest := [(.ref xa)]) (lenOf pd_18 rfl) rfl (by show 2 * 0 + _ ≤ _; exact Nat.le_of_eq rfl) (hb hby d4_17) (fun _ _ => ⟨rfl, rfl, (by decide : 4 + 2 ≤ _), (by decide : 56 + 20 ≤ _)⟩)
  dsimp only [Pt.U, Pt.locs, Pt.cells, Pt.slots] at X43 l43 y43 z43 st43 hQ43
  subst l43 y43 z43
  obtain ⟨o44, rfl, Nq43, Kq43, P43_0⟩ := hQ43
  have N43 := Fr.app N38 Nq43
  have Ca43k := CHr.keep Kq43 all0 C38k.1
  have z43k : T38.heap.size ≤ T43.heap.size := Kq43.1
  have C43k := C38k.trans Ca43k
  have lsf45 : o7 < T38.heap.size := by omega
  have sf45 := Ca43k.safe lsf45 sf40
  have lsf46 : b1 < T38.heap.size := by omega
  have sf46 := Ca43k.safe lsf46 sf41
  have K43 : Keep h0 T43.heap [] := K38.trans Kq43 all0
  refine Comes.go st43 ?_
  have lt_47 : o44 < T43.heap.size := P43_0.lt
  show Comes p e below _ (T43.setTop (mkF m 20 #[.val (.ref xa), .val (.ref sg), .val (.int n), .val (.double (18442240474082181120 : UInt64)), .second, .unset] [(.ref o44), (.ref xa)]))
  obtain ⟨_, _, ⟨T48, L48, k48, n48⟩, -, X48, ⟨Lc48, hQ48, l48, y48, z48⟩, st48⟩ := Jvm.LawKit.callS X43 hx (y := (⟨"java/util/Objects", "requireNonNull", "(Ljava/lang/Object;Ljava/lang/String;)Ljava/lang/Object;"⟩ : MethodName)) hown (mvT hZ (W hw 146)) (mvT hZ (W hw 20)) (mvT hZ (W hw 21)) (mvT hZ (W hw 22)) (by decide) (backOf (W := 0) (rm3 l Z a0 hw [] xa o44 T43.heap n0 (by omega)  ) hZ (W hw 22) (W hw 21) (by decide) (by decide)) (g := (mkF m 20 #[.val (.ref xa), .val (.ref sg), .val (.int n), .val (.double (18442240474082181120 : UInt64)), .second, .unset] [(.ref o44), (.ref xa)])) rfl (by rw [hml]; rfl) (argsL := [(.ref xa), (.ref o44)]) (rest := []) (lenOf pd_19 rfl) rfl (by show 2 * 0 + _ ≤ _; exact Nat.le_of_eq rfl) (hb hby d4_20) (fun _ _ => ⟨rfl, rfl, (by decide : 6 + 0 ≤ _), (by decide : 76 + 0 ≤ _)⟩)
  dsimp only [Pt.U, Pt.locs, Pt.cells, Pt.slots] at X48 l48 y48 z48 st48 hQ48
  subst l48 y48 z48
  obtain ⟨rfl, Nq48, hs48⟩ := hQ48
  have N48 := Fr.app N43 Nq48
  refine Comes.st st48 ?_
  show Comes p e below _ (T48.setTop (mkF m 23 #[.val (.ref xa), .val (.ref sg), .val (.int n), .val (.double (18442240474082181120 : UInt64)), .second, .unset] [(.ref xa)]))
  refine Comes.st (fun t k => XS.pop X48.here hx rfl (hb hby d4_23) rfl rfl (XS.aloadN X48.here hx rfl (hb hby d4_24) rfl rfl k)) ?_
  show Comes p e below _ (T48.setTop (mkF m 25 #[.val (.ref xa), .val (.ref sg), .val (.int n), .val (.double (18442240474082181120 : UInt64)), .second, .unset] [(.ref xa)]))
  have ne49 : xa ≠ b1 := by omega
  have ne50 : xa ≠ o7 := by omega
  have F51 : Arv Z T43.heap xa ka .double n [] (.double (0 : UInt64)) := ((((((G0.ext E1).keep Kq6 (ninS ne49 nin0)).keep Kq23 (ninS ne49 (ninS ne50 nin0))).ext E27).keep Kq38 (ninS ne49 (ninS ne50 nin0))).keep Kq43 nin0)
  obtain ⟨cl52, Ar52, -, S52, Ng52, -, -⟩ := id F51
  refine Comes.st (fun t k => X48.arraylength hx (by rw [hs48]; exact Ar52.1) (State.isArrayOf_alike hZ.alike Ar52.2.1) (g := (mkF m 25 #[.val (.ref xa), .val (.ref sg), .val (.int n), .val (.double (18442240474082181120 : UInt64)), .second, .unset] [(.ref xa)])) rfl rfl (hb hby d4_25) _ k) ?_
  rw [len_of S52 Ng52]
  show Comes p e below _ (T48.setTop (mkF m 26 #[.val (.ref xa), .val (.ref sg), .val (.int n), .val (.double (18442240474082181120 : UInt64)), .second, .unset] [(.int n)]))
  refine Comes.st (fun t k => XS.iloadN X48.here hx rfl (hb hby d4_26) rfl k) ?_
  show Comes p e below _ (T48.setTop (mkF m 27 #[.val (.ref xa), .val (.ref sg), .val (.int n), .val (.double (18442240474082181120 : UInt64)), .second, .unset] [(.int n), (.int n)]))
  have hc27_53 : n = n := by rfl
  refine Comes.st (fun t k => XS.icmpYes X48.here hx rfl (pc0 := 27) (pc' := 71) rfl (hb hby d4_27) rfl (teq hc27_53).1 (by decide) (by decide) (XS.aloadN X48.here hx rfl (hb hby d4_71) rfl rfl (XS.dloadN X48.here hx rfl (hb hby d4_72) rfl k))) ?_
  show Comes p e below _ (T48.setTop (mkF m 73 #[.val (.ref xa), .val (.ref sg), .val (.int n), .val (.double (18442240474082181120 : UInt64)), .second, .unset] [(.double (18442240474082181120 : UInt64)), (.ref xa)]))
  obtain ⟨_, _, ⟨T54, L54, k54, n54⟩, -, X54, ⟨Lc54, hQ54, l54, y54, z54⟩, st54⟩ := Jvm.LawKit.callS X48 hx (y := (⟨"com/example/ordr/ordr/model/Layout", "firstBelow", "([DD)I"⟩ : MethodName)) hown (mvT hZ (W hw 147)) (mvT hZ (W hw 148)) (mvT hZ (W hw 28)) (mvT hZ (W hw 149)) (by decide) (backOf (W := 0) (fbG l Z a0 hw [] xa ((18442240474082181120 : UInt64)) ka ((1 : Int32)) n T43.heap n0 (by omega)  F51 (by first | assumption | exact rfl | decide +kernel | decide) (by first | assumption | exact rfl | decide +kernel | decide) (by first | assumption | exact rfl | decide +kernel | decide)) hZ (W hw 149) (W hw 28) (by decide) (by decide)) (g := (mkF m 73 #[.val (.ref xa), .val (.ref sg), .val (.int n), .val (.double (18442240474082181120 : UInt64)), .second, .unset] [(.double (18442240474082181120 : UInt64)), (.ref xa)])) rfl (by rw [hml]; rfl) (argsL := [(.ref xa), (.double (18442240474082181120 : UInt64))]) (rest := []) (lenOf pd_20 rfl) rfl (by show 2 * 0 + _ ≤ _; exact Nat.le_of_eq rfl) (hb hby d4_73) (fun _ _ => ⟨rfl, hs48, (by decide : 6 + 0 ≤ _), (by decide : 76 + 0 ≤ _)⟩)
  dsimp only [Pt.U, Pt.locs, Pt.cells, Pt.slots] at X54 l54 y54 z54 st54 hQ54
  subst l54 y54 z54
  obtain ⟨rfl, Nq54, hs54⟩ := hQ54
  have N54 := Fr.app N48 Nq54
  refine Comes.st st54 ?_
  show Comes p e below _ (T54.setTop (mkF m 76 #[.val (.ref xa), .val (.ref sg), .val (.int n), .val (.double (18442240474082181120 : UInt64)), .second, .unset] [(.int (-1 : Int32))]))
  refine Comes.st (fun t k => XS.istore X54.here hx rfl (hb hby d4_76) rfl (l' := #[.val (.ref xa), .val (.ref sg), .val (.int n), .val (.double (18442240474082181120 : UInt64)), .second, .val (.int (-1 : Int32))]) rfl (XS.iload X54.here hx rfl (hb hby d4_78) rfl k)) ?_
  show Comes p e below _ (T54.setTop (mkF m 80 #[.val (.ref xa), .val (.ref sg), .val (.int n), .val (.double (18442240474082181120 : UInt64)), .second, .val (.int (-1 : Int32))] [(.int (-1 : Int32))]))
  have hc80_55 : (-1 : Int32) < (0 : Int32) := by decide
  refine Comes.st (fun t k => XS.ifYes X54.here hx rfl (pc0 := 80) (pc' := 127) rfl (hb hby d4_80) rfl ((if0 _ _).trans (tlt hc80_55).1) (by decide) (by decide) (XS.aloadN X54.here hx rfl (hb hby d4_127) rfl rfl k)) ?_
  show Comes p e below _ (T54.setTop (mkF m 128 #[.val (.ref xa), .val (.ref sg), .val (.int n), .val (.double (18442240474082181120 : UInt64)), .second, .val (.int (-1 : Int32))] [(.ref xa)]))
  have F56 : Exa Z T43.heap xa "[D" := ((((((G1.ext E1).keep Kq6).keep Kq23).ext E27).keep Kq38).keep Kq43)
  obtain ⟨T57, h57, X57, e57, E57, V57, Ex57, st57⟩ := cloneH X54 hx hZ hown (W hw 150) (W hw 151) (W hw 155) (W hw 153) (W hw 154) (W hw 156) hs54 (Arv.arh F51) F56 (g := (mkF m 128 #[.val (.ref xa), .val (.ref sg), .val (.int n), .val (.double (18442240474082181120 : UInt64)), .second, .val (.int (-1 : Int32))] [(.ref xa)])) rfl (by rw [hml]; rfl) rfl (hb hby d4_128) (by decide) (W := 0) (by show 2 * 0 + _ ≤ _; exact Nat.le_of_eq rfl) (by decide) (cap := 7) (by exact own_n7 (by assumption)) (by decide) (by decide)
  obtain ⟨b57, g57⟩ : ∃ z, z = T43.heap.size := ⟨_, rfl⟩
  rw [← g57] at V57 Ex57 st57
  have Ca57 := CHr.ext E57 C43k.1
  have z57 : T43.heap.size ≤ h57.size := E57.1
  have C57 := C43k.trans Ca57
  have lsf58 : o7 < T43.heap.size := by omega
  have sf58 := Ca57.safe lsf58 sf45
  have lsf59 : b1 < T43.heap.size := by omega
  have sf59 := Ca57.safe lsf59 sf46
  have lt57 : b57 < h57.size := V57.lt
  have V57' : Arv Z h57 b57 ka .double n [] (.double (0 : UInt64)) := V57
  have K57 : Keep h0 h57 [] := K43.ext E57
  refine Comes.st st57 ?_
  show Comes p e below _ (T57.setTop (mkF m 131 #[.val (.ref xa), .val (.ref sg), .val (.int n), .val (.double (18442240474082181120 : UInt64)), .second, .val (.int (-1 : Int32))] [(.ref b57)]))
  obtain ⟨T60, X60, e60, st60⟩ := castY X57 hx hZ hown (W hw 157) e57 (Ins.self Ex57) (g := (mkF m 131 #[.val (.ref xa), .val (.ref sg), .val (.int n), .val (.double (18442240474082181120 : UInt64)), .second, .val (.int (-1 : Int32))] [(.ref b57)])) rfl rfl (hb hby d4_131)
  refine Comes.st st60 ?_
  show Comes p e below _ (T60.setTop (mkF m 134 #[.val (.ref xa), .val (.ref sg), .val (.int n), .val (.double (18442240474082181120 : UInt64)), .second, .val (.int (-1 : Int32))] [(.ref b57)]))
  have hkf : k27 ≤ h57.size := by omega
  exact Comes.hretV X60 hx Bd.returns (narrow_ref rfl) (Or.inr (Or.inr (Or.inr (Or.inr ⟨rfl, rfl, rfl⟩)))) hlk (hb hby d4_134) hS27 hkf e60 ⟨b57, ka, rfl, N54, K57, V57', Ex57, (by omega)⟩ (by decide) (by decide) (by rw [hh]; exact C57) hZ (own_EW hw)
def Q_rm1 (Z : State) (ob xa : Nat) (ka : ClassId) (n cs : Int32) (h0 : Heap) (n0 : Nat) (v_ : Option Value) (h : Heap) (L_ : List Loc) : Prop := ∃ (ra : Nat), ∃ (rb : Nat), (v_ = none) ∧ (Fr n0 L_) ∧ (Keep h0 h [ob]) ∧ (Exa Z h ob "com/example/ordr/ordr/model/BoxSizes") ∧ (Fld Z h ob "com/example/ordr/ordr/model/BoxSizes" "widths" "[D" (.ref ra)) ∧ (Fld Z h ob "com/example/ordr/ordr/model/BoxSizes" "heights" "[D" (.ref rb)) ∧ (Fld Z h ob "com/example/ordr/ordr/model/BoxSizes" "labelWidths" "[D" .null)
theorem rm1 (l : Launch) (Z : State) (a0 : Array Value) (hw : ∀ d ∈ tables_1, d.before a0 Z = true) (ws : List Jvm.Cond) (ob xa : Nat) (ka : ClassId) (n cs : Int32) (h0 : Heap) (n0 : Nat) (Z0 : n0 ≤ h0.size) (G0 : Exa Z h0 ob "com/example/ordr/ordr/model/BoxSizes") (G1 : Fld Z h0 ob "com/example/ordr/ordr/model/BoxSizes" "widths" "[D" .null) (G2 : Fld Z h0 ob "com/example/ordr/ordr/model/BoxSizes" "heights" "[D" .null) (G3 : Fld Z h0 ob "com/example/ordr/ordr/model/BoxSizes" "labelWidths" "[D" .null) (G4 : Fld Z h0 ob "com/example/ordr/ordr/model/BoxSizes" "labelHeights" "[D" .null) (G5 : Fld Z h0 ob "com/example/ordr/ordr/model/BoxSizes" "labelOffsetXs" "[D" .null) (G6 : Fld Z h0 ob "com/example/ordr/ordr/model/BoxSizes" "labelOffsetYs" "[D" .null) (G7 : Arv Z h0 xa ka .double n [] (.double (0 : UInt64))) (G8 : Exa Z h0 xa "[D") (G9 : 0 ≤ n.toInt ∧ n.toInt ≤ 7) (G10 : Sta Z Z.heap "java/lang/String" "COMPACT_STRINGS" "Z" (.int cs)) (G11 : ¬ (cs = (0 : Int32))) (G12 : Old Z n0 h0) (G13 : n0 ≤ ob) (G14 : xa ≠ ob) :
    MetFree l (⟨"com/example/ordr/ordr/model/BoxSizes", "<init>", "([D[D)V"⟩ : MethodName) (head1 (Jvm.Cond.code (⟨"com/example/ordr/ordr/model/BoxSizes", "<init>", "([D[D)V"⟩ : MethodName) prog_74_method_1_code 4 none :: ws) (Rm 7 20 283 119)) (fun a_ U_ => a_ = #[(.ref ob), (.ref xa), (.ref xa)] ∧ Z.Warmed39 U_.vm ∧ U_.heap = h0 ∧ CHv Z consts_1 U_.vm h0) (fun _ _ _ _ _ => True) (fun _ U_ o_ V_ => ∃ v_ L_, o_ = .returned v_ ∧ Q_rm1 Z ob xa ka n cs h0 n0 v_ V_.heap L_ ∧ CHr Z consts_1 U_.vm U_.heap V_.vm V_.heap ∧ ReturnedEndW U_ o_ V_ L_ (Rm 7 20 283 119).cells (Rm 7 20 283 119).slots) := by
  refine MetFree.of_bodySF (plainFor_of_name pn_1) hisR ?_
  intro p e s m args below meth c s₁ Bd hml0 hP hK
  obtain ⟨rfl, hZ, hh, hC0⟩ := hP
  have hx := Bd.exec
  have hby := Bd.bytes
  have hml : c.maxLocals = 4 := hml0
  have hown : s.vm.findClass "com/example/ordr/ordr/model/BoxSizes" = some m.cls := findClass_of_methodNamed Bd.named
  have hnm := (name_of_methodNamed Bd.named Bd.method).1
  have hlk : meth.locks = false := Bd.notSynchronized
  have X0 : Stand p l e (Rm 7 20 283 119) s m #[(.ref ob), (.ref xa), (.ref xa)] below meth c s₁ [] 0 0 := Stand.of_body Bd
  have e0 : s₁.heap = h0 := by rw [← hh, Bd.state]; rfl
  have N0 := Fr.nil n0
  have X0 := own_base X0
  have hZ : Z.Warmed39 (s.setVm s.vm).vm := hZ
  have C0 := CHr.refl hC0
  have hS0 : s.Since s.vm 0 := (State.WarmedH.refl s).since 0
  have K0 := Keep.refl h0 [ob]
  refine Comes.outH (EL := consts_1) (Z := Z) (Q := Q_rm1 Z ob xa ka n cs h0 n0) (kc := (Rm 7 20 283 119).cells) (ks := (Rm 7 20 283 119).slots) ?_
  refine Comes.cast (ef_rm1 m ob xa xa) ?_
  have lt_ob : ob < h0.size := G0.lt
  have lt_xa : xa < h0.size := G7.lt
  show Comes p e below _ (s₁.setTop (mkF m 0 #[.val (.ref ob), .val (.ref xa), .val (.ref xa), .unset] []))
  refine Comes.st (fun t k => XS.aloadN X0.here hx rfl (hb hby d1_0) rfl rfl k) ?_
  show Comes p e below _ (s₁.setTop (mkF m 1 #[.val (.ref ob), .val (.ref xa), .val (.ref xa), .unset] [(.ref ob)]))
  obtain ⟨T1, X1, e1, st1⟩ := initO X0 hx hZ hown (W hw 8) (W hw 9) (W hw 10) e0 (g := (mkF m 1 #[.val (.ref ob), .val (.ref xa), .val (.ref xa), .unset] [(.ref ob)])) rfl (by rw [hml]; rfl) rfl (hb hby d1_1) (by decide) (W := 0) (by show 2 * 0 + _ ≤ _; exact Nat.le_of_eq rfl) (by decide)
  refine Comes.st st1 ?_
  show Comes p e below _ (T1.setTop (mkF m 4 #[.val (.ref ob), .val (.ref xa), .val (.ref xa), .unset] []))
  refine Comes.st (fun t k => XS.aloadN X1.here hx rfl (hb hby d1_4) rfl rfl k) ?_
  obtain ⟨b2, T2, h2, k2, X2, e2, E2, hS2, hk2, hZ, hown, Ca2, -, st2⟩ := ldcOH (s := s) (vm0 := s.vm) X1 hx hZ hown (W hw 11) (fun d hd => by simp only [Bundle.stringAtoms, List.mem_cons, List.not_mem_nil, or_false] at hd; rcases hd with rfl | rfl | rfl | rfl | rfl | rfl | rfl; exact hw _ (List.mem_of_getElem? (i := 12) rfl); exact hw _ (List.mem_of_getElem? (i := 13) rfl); exact hw _ (List.mem_of_getElem? (i := 14) rfl); exact hw _ (List.mem_of_getElem? (i := 15) rfl); exact hw _ (List.mem_of_getElem? (i := 16) rfl); exact hw _ (List.mem_of_getElem? (i := 17) rfl); exact hw _ (List.mem_of_getElem? (i := 18) rfl)) e1 hS0 (Nat.zero_le _) (own_EW hw) C0.1 (g := (mkF m 5 #[.val (.ref ob), .val (.ref xa), .val (.ref xa), .unset] [(.ref xa)])) rfl (hb hby d1_5) (n := 56) (by decide) (by decide) (by decide) (by decide)
  have z2 : h0.size ≤ h2.size := E2.1
  have C2 := C0.trans Ca2
  have K2 : Keep h0 h2 [ob] := K0.ext E2
  refine Comes.st st2 ?_
  show Comes p e below _ (T2.setTop (mkF m 7 #[.val (.ref ob), .val (.ref xa), .val (.ref xa), .unset] [(.ref b2), (.ref xa)]))
  obtain ⟨_, _, ⟨T3, L3, k3, n3⟩, -, X3, ⟨Lc3, hQ3, l3, y3, z3⟩, st3⟩ := Jvm.LawKit.callS X2 hx (y := (⟨"java/util/Objects", "requireNonNull", "(Ljava/lang/Object;Ljava/lang/String;)Ljava/lang/Object;"⟩ : MethodName)) hown (mvT hZ (W hw 19)) (mvT hZ (W hw 20)) (mvT hZ (W hw 21)) (mvT hZ (W hw 22)) (by decide) (backOf (W := 0) (rm3 l Z a0 hw [] xa b2 h2 n0 (by omega)  ) hZ (W hw 22) (W hw 21) (by decide) (by decide)) (g := (mkF m 7 #[.val (.ref ob), .val (.ref xa), .val (.ref xa), .unset] [(.ref b2), (.ref xa)])) rfl (by rw [hml]; rfl) (argsL := [(.ref xa), (.ref b2)]) (rest := []) (lenOf pd_19 rfl) rfl (by show 2 * 0 + _ ≤ _; exact Nat.le_of_eq rfl) (hb hby d1_7) (fun _ _ => ⟨rfl, e2, (by decide : 2 + 0 ≤ _), (by decide : 60 + 0 ≤ _)⟩)
  dsimp only [Pt.U, Pt.locs, Pt.cells, Pt.slots] at X3 l3 y3 z3 st3 hQ3
  subst l3 y3 z3
  obtain ⟨rfl, Nq3, hs3⟩ := hQ3
  have N3 := Fr.app N0 Nq3
  refine Comes.st st3 ?_
  show Comes p e below _ (T3.setTop (mkF m 10 #[.val (.ref ob), .val (.ref xa), .val (.ref xa), .unset] [(.ref xa)]))
  have F4 : Exa Z h2 xa "[D" := (G8.ext E2)
  obtain ⟨T5, X5, e5, st5⟩ := castY X3 hx hZ hown (W hw 23) hs3 (Ins.self F4) (g := (mkF m 10 #[.val (.ref ob), .val (.ref xa), .val (.ref xa), .unset] [(.ref xa)])) rfl rfl (hb hby d1_10)
  refine Comes.st st5 ?_
  show Comes p e below _ (T5.setTop (mkF m 13 #[.val (.ref ob), .val (.ref xa), .val (.ref xa), .unset] [(.ref xa)]))
  have F6 : Arv Z h2 xa ka .double n [] (.double (0 : UInt64)) := (G7.ext E2)
  obtain ⟨cl7, Ar7, -, S7, Ng7, -, -⟩ := id F6
  refine Comes.st (fun t k => X5.arraylength hx (by rw [e5]; exact Ar7.1) (State.isArrayOf_alike hZ.alike Ar7.2.1) (g := (mkF m 13 #[.val (.ref ob), .val (.ref xa), .val (.ref xa), .unset] [(.ref xa)])) rfl rfl (hb hby d1_13) _ k) ?_
  rw [len_of S7 Ng7]
  show Comes p e below _ (T5.setTop (mkF m 14 #[.val (.ref ob), .val (.ref xa), .val (.ref xa), .unset] [(.int n)]))
  refine Comes.st (fun t k => XS.istoreN X5.here hx rfl (hb hby d1_14) rfl (l' := #[.val (.ref ob), .val (.ref xa), .val (.ref xa), .val (.int n)]) rfl (XS.aloadN X5.here hx rfl (hb hby d1_15) rfl rfl (XS.aloadN X5.here hx rfl (hb hby d1_16) rfl rfl k))) ?_
  obtain ⟨b8, T8, h8, k8, v8, q8, X8, e8, E8, hS8, hk8, hZ, hown, A8, Fc8, Fv8, V8, lt8, lv8, Ca8, -, Sn8, st8⟩ := ldcCH (s := s) (vm0 := T2.vm) X5 hx hZ hown (W hw 25) (fun d hd => by simp only [Bundle.stringAtoms, List.mem_cons, List.not_mem_nil, or_false] at hd; rcases hd with rfl | rfl | rfl | rfl | rfl | rfl | rfl; exact hw _ (List.mem_of_getElem? (i := 12) rfl); exact hw _ (List.mem_of_getElem? (i := 13) rfl); exact hw _ (List.mem_of_getElem? (i := 14) rfl); exact hw _ (List.mem_of_getElem? (i := 15) rfl); exact hw _ (List.mem_of_getElem? (i := 16) rfl); exact hw _ (List.mem_of_getElem? (i := 17) rfl); exact hw _ (List.mem_of_getElem? (i := 18) rfl)) e5 hS2 (by omega) (own_EW hw) (List.mem_of_getElem? (i := 1) rfl) C2.1 (vs := (own_tx "widths")) (z := (6 : Int32)) ⟨by decide, rfl⟩ (by decide) (by decide) (g := (mkF m 17 #[.val (.ref ob), .val (.ref xa), .val (.ref xa), .val (.int n)] [(.ref xa), (.ref ob)])) rfl (hb hby d1_17) (n := 24) (by decide) (by decide) (by decide) (by decide)
  have z8 : h2.size ≤ h8.size := E8.1
  have C8 := C2.trans Ca8
  have K8 : Keep h0 h8 [ob] := K2.ext E8
  refine Comes.st st8 ?_
  show Comes p e below _ (T8.setTop (mkF m 19 #[.val (.ref ob), .val (.ref xa), .val (.ref xa), .val (.int n)] [(.ref b8), (.ref xa), (.ref ob)]))
  refine Comes.st (fun t k => XS.iloadN X8.here hx rfl (hb hby d1_19) rfl (own_dconst0 X8 hx rfl (hb hby d1_20) k)) ?_
  show Comes p e below _ (T8.setTop (mkF m 21 #[.val (.ref ob), .val (.ref xa), .val (.ref xa), .val (.int n)] [(.double (0 : UInt64)), (.int n), (.ref b8), (.ref xa), (.ref ob)]))
  have F9 : Arv Z h8 xa ka .double n [] (.double (0 : UInt64)) := (F6.ext E8)
  have F10 : Exa Z h8 xa "[D" := (F4.ext E8)
  have Od11 : Old Z n0 h8 := ((G12.ext E2).ext E8)
  obtain ⟨_, _, ⟨T12, L12, k12, n12⟩, -, X12, hSc12, hgr12, ⟨Lc12, hQ12, l12, y12, z12, Ca12⟩, st12⟩ := callSS X8 hx (y := (⟨"com/example/ordr/ordr/model/Layout", "checked", "([DLjava/lang/String;ID)[D"⟩ : MethodName)) hown (mvT hZ (W hw 26)) (mvT hZ (W hw 27)) (mvT hZ (W hw 28)) (mvT hZ (W hw 29)) (by decide) (backOfSH (W := 1) (ck6 l Z a0 hw [] xa b8 n ka v8 q8 ((own_tx "widths")) cs h8 n0 (by omega)  F9 F10 (by assumption) A8 Fv8 Fc8 V8 G10 (by assumption) Od11) hZ (W hw 29) (W hw 28) (by decide) (by decide) (own_EW hw) C8.1) (g := (mkF m 21 #[.val (.ref ob), .val (.ref xa), .val (.ref xa), .val (.int n)] [(.double (0 : UInt64)), (.int n), (.ref b8), (.ref xa), (.ref ob)])) rfl (by rw [hml]; rfl) (argsL := [(.ref xa), (.ref b8), (.int n), (.double (0 : UInt64))]) (rest := [(.ref ob)]) (lenOf pd_21 rfl) rfl (by show 2 * 0 + _ ≤ _; exact Nat.le_of_eq rfl) (hb hby d1_21) (fun _ _ => ⟨rfl, e8, (by decide : 4 + 7 ≤ _), (by decide : 88 + 81 ≤ _)⟩)
  dsimp only [Pt.U, Pt.locs, Pt.cells, Pt.slots] at X12 hSc12 hgr12 l12 y12 z12 st12 hQ12 Ca12
  have hS12 : s.Since T12.vm T12.heap.size := foldS (T := T8) hS8 (by rw [e8]; omega) hSc12 hgr12
  have hZ : Z.Warmed39 (s.setVm T12.vm).vm := State.Warmed39.trans (t := s.setVm T8.vm) hZ hSc12.1
  have hown : (s.setVm T12.vm).vm.findClass "com/example/ordr/ordr/model/BoxSizes" = some m.cls := by rw [show (s.setVm T12.vm).vm = T12.vm from rfl, hSc12.1.alike.findClass]; exact hown
  have X12 := own_rebase X12
  subst l12 y12 z12
  obtain ⟨o13, r14, rfl, Nq12, Kq12, P12_0, P12_1, P12_2⟩ := hQ12
  have N12 := Fr.app N3 Nq12
  have z12k : h8.size ≤ T12.heap.size := Kq12.1
  have C12 := C8.trans Ca12
  have K12 : Keep h0 T12.heap [ob] := K8.trans Kq12 all0
  refine Comes.go st12 ?_
  have lt_15 : o13 < T12.heap.size := P12_0.lt
  show Comes p e below _ (T12.setTop (mkF m 24 #[.val (.ref ob), .val (.ref xa), .val (.ref xa), .val (.int n)] [(.ref o13), (.ref ob)]))
  have F16 : Exa Z T12.heap ob "com/example/ordr/ordr/model/BoxSizes" := (((G0.ext E2).ext E8).keep Kq12)
  have F17 : Fld Z T12.heap ob "com/example/ordr/ordr/model/BoxSizes" "widths" "[D" .null := (((G1.ext E2).ext E8).keep Kq12 nin0)
  obtain ⟨T18, h18, X18, e18, W18, st18⟩ := putF X12 hx hZ hown (host := "") (Or.inl (W hw 158)) Via.refl rfl F17 F16 (Or.inr ⟨(W hw 159), rfl, hnm⟩) (W hw 3) (ty := (.array .double)) (by decide) rfl rfl (g := (mkF m 24 #[.val (.ref ob), .val (.ref xa), .val (.ref xa), .val (.int n)] [(.ref o13), (.ref ob)])) rfl rfl (hb hby d1_24)
  have Fw18 := F17.same W18
  have Ca18 := CHr.wr W18 (Safe.exa hZ.alike F16 (by decide) (by decide)) C12.1
  have z18 : h18.size = T12.heap.size := W18.size
  have C18 := C12.trans Ca18
  have gn19 : n0 ≤ ob := by omega
  have N18 := Fr.snoc X18 N12 gn19
  have K18 : Keep h0 h18 [ob] := K12.wr W18 (Or.inl (List.mem_of_getElem? (i := 0) rfl))
  refine Comes.st st18 ?_
  show Comes p e below _ (T18.setTop (mkF m 27 #[.val (.ref ob), .val (.ref xa), .val (.ref xa), .val (.int n)] []))
  refine Comes.st (fun t k => XS.aloadN X18.here hx rfl (hb hby d1_27) rfl rfl (XS.aloadN X18.here hx rfl (hb hby d1_28) rfl rfl k)) ?_
  obtain ⟨b20, T20, h20, k20, v20, q20, X20, e20, E20, hS20, hk20, hZ, hown, A20, Fc20, Fv20, V20, lt20, lv20, Ca20, -, Sn20, st20⟩ := ldcCH (s := s) (vm0 := T12.vm) X18 hx hZ hown (W hw 160) (fun d hd => by simp only [Bundle.stringAtoms, List.mem_cons, List.not_mem_nil, or_false] at hd; rcases hd with rfl | rfl | rfl | rfl | rfl | rfl | rfl; exact hw _ (List.mem_of_getElem? (i := 12) rfl); exact hw _ (List.mem_of_getElem? (i := 13) rfl); exact hw _ (List.mem_of_getElem? (i := 14) rfl); exact hw _ (List.mem_of_getElem? (i := 15) rfl); exact hw _ (List.mem_of_getElem? (i := 16) rfl); exact hw _ (List.mem_of_getElem? (i := 17) rfl); exact hw _ (List.mem_of_getElem? (i := 18) rfl)) e18 hS12 (by omega) (own_EW hw) (List.mem_of_getElem? (i := 2) rfl) C18.1 (vs := (own_tx "heights")) (z := (7 : Int32)) ⟨by decide, rfl⟩ (by decide) (by decide) (g := (mkF m 29 #[.val (.ref ob), .val (.ref xa), .val (.ref xa), .val (.int n)] [(.ref xa), (.ref ob)])) rfl (hb hby d1_29) (n := 28) (by decide) (by decide) (by decide) (by decide)
  have z20 : h18.size ≤ h20.size := E20.1
  have C20 := C18.trans Ca20
  have K20 : Keep h0 h20 [ob] := K18.ext E20
  refine Comes.st st20 ?_
  show Comes p e below _ (T20.setTop (mkF m 31 #[.val (.ref ob), .val (.ref xa), .val (.ref xa), .val (.int n)] [(.ref b20), (.ref xa), (.ref ob)]))
  refine Comes.st (fun t k => XS.iloadN X20.here hx rfl (hb hby d1_31) rfl (own_dconst0 X20 hx rfl (hb hby d1_32) k)) ?_
  show Comes p e below _ (T20.setTop (mkF m 33 #[.val (.ref ob), .val (.ref xa), .val (.ref xa), .val (.int n)] [(.double (0 : UInt64)), (.int n), (.ref b20), (.ref xa), (.ref ob)]))
  have F21 : Arv Z h20 xa ka .double n [] (.double (0 : UInt64)) := (((F9.keep Kq12 nin0).other W18 G14).ext E20)
  have F22 : Exa Z h20 xa "[D" := (((F10.keep Kq12).wr W18).ext E20)
  have Od23 : Old Z n0 h20 := (((Od11.keep Kq12 all0).wr W18 (by omega)).ext E20)
  obtain ⟨_, _, ⟨T24, L24, k24, n24⟩, -, X24, hSc24, hgr24, ⟨Lc24, hQ24, l24, y24, z24, Ca24⟩, st24⟩ := callSS X20 hx (y := (⟨"com/example/ordr/ordr/model/Layout", "checked", "([DLjava/lang/String;ID)[D"⟩ : MethodName)) hown (mvT hZ (W hw 26)) (mvT hZ (W hw 27)) (mvT hZ (W hw 28)) (mvT hZ (W hw 29)) (by decide) (backOfSH (W := 1) (ck7 l Z a0 hw [] xa b20 n ka v20 q20 ((own_tx "heights")) cs h20 n0 (by omega)  F21 F22 (by assumption) A20 Fv20 Fc20 V20 G10 (by assumption) Od23) hZ (W hw 29) (W hw 28) (by decide) (by decide) (own_EW hw) C20.1) (g := (mkF m 33 #[.val (.ref ob), .val (.ref xa), .val (.ref xa), .val (.int n)] [(.double (0 : UInt64)), (.int n), (.ref b20), (.ref xa), (.ref ob)])) rfl (by rw [hml]; rfl) (argsL := [(.ref xa), (.ref b20), (.int n), (.double (0 : UInt64))]) (rest := [(.ref ob)]) (lenOf pd_21 rfl) rfl (by show 2 * 0 + _ ≤ _; exact Nat.le_of_eq rfl) (hb hby d1_33) (fun _ _ => ⟨rfl, e20, (by decide : 13 + 7 ≤ _), (by decide : 201 + 82 ≤ _)⟩)
  dsimp only [Pt.U, Pt.locs, Pt.cells, Pt.slots] at X24 hSc24 hgr24 l24 y24 z24 st24 hQ24 Ca24
  have hS24 : s.Since T24.vm T24.heap.size := foldS (T := T20) hS20 (by rw [e20]; omega) hSc24 hgr24
  have hZ : Z.Warmed39 (s.setVm T24.vm).vm := State.Warmed39.trans (t := s.setVm T20.vm) hZ hSc24.1
  have hown : (s.setVm T24.vm).vm.findClass "com/example/ordr/ordr/model/BoxSizes" = some m.cls := by rw [show (s.setVm T24.vm).vm = T24.vm from rfl, hSc24.1.alike.findClass]; exact hown
  have X24 := own_rebase X24
  subst l24 y24 z24
  obtain ⟨o25, r26, rfl, Nq24, Kq24, P24_0, P24_1, P24_2⟩ := hQ24
  have N24 := Fr.app N18 Nq24
  have z24k : h20.size ≤ T24.heap.size := Kq24.1
  have C24 := C20.trans Ca24
  have K24 : Keep h0 T24.heap [ob] := K20.trans Kq24 all0
  refine Comes.go st24 ?_
  have lt_27 : o25 < T24.heap.size := P24_0.lt
  show Comes p e below _ (T24.setTop (mkF m 36 #[.val (.ref ob), .val (.ref xa), .val (.ref xa), .val (.int n)] [(.ref o25), (.ref ob)]))
  have F28 : Exa Z T24.heap ob "com/example/ordr/ordr/model/BoxSizes" := (((F16.wr W18).ext E20).keep Kq24)
  have F29 : Fld Z T24.heap ob "com/example/ordr/ordr/model/BoxSizes" "heights" "[D" .null := ((((((G2.ext E2).ext E8).keep Kq12 nin0).other W18 (Or.inr (slot_ne (Or.inr (W hw 162)) (Or.inr (W hw 159)) (by decide) (t := (.array .double)) (t' := (.array .double)) (by decide) (by decide)))).ext E20).keep Kq24 nin0)
  obtain ⟨T30, h30, X30, e30, W30, st30⟩ := putF X24 hx hZ hown (host := "") (Or.inl (W hw 161)) Via.refl rfl F29 F28 (Or.inr ⟨(W hw 162), rfl, hnm⟩) (W hw 3) (ty := (.array .double)) (by decide) rfl rfl (g := (mkF m 36 #[.val (.ref ob), .val (.ref xa), .val (.ref xa), .val (.int n)] [(.ref o25), (.ref ob)])) rfl rfl (hb hby d1_36)
  have Fw30 := F29.same W30
  have Ca30 := CHr.wr W30 (Safe.exa hZ.alike F28 (by decide) (by decide)) C24.1
  have z30 : h30.size = T24.heap.size := W30.size
  have C30 := C24.trans Ca30
  have N30 := Fr.snoc X30 N24 gn19
  have K30 : Keep h0 h30 [ob] := K24.wr W30 (Or.inl (List.mem_of_getElem? (i := 0) rfl))
  refine Comes.st st30 ?_
  show Comes p e below _ (T30.setTop (mkF m 39 #[.val (.ref ob), .val (.ref xa), .val (.ref xa), .val (.int n)] []))
  refine Comes.st (fun t k => XS.aloadN X30.here hx rfl (hb hby d1_39) rfl rfl (XS.aconstNull X30.here hx rfl (hb hby d1_40) k)) ?_
  show Comes p e below _ (T30.setTop (mkF m 41 #[.val (.ref ob), .val (.ref xa), .val (.ref xa), .val (.int n)] [.null, (.ref ob)]))
  have F31 : Exa Z h30 ob "com/example/ordr/ordr/model/BoxSizes" := (F28.wr W30)
  have F32 : Fld Z h30 ob "com/example/ordr/ordr/model/BoxSizes" "labelWidths" "[D" .null := (((((((G3.ext E2).ext E8).keep Kq12 nin0).other W18 (Or.inr (slot_ne (Or.inr (W hw 164)) (Or.inr (W hw 159)) (by decide) (t := (.array .double)) (t' := (.array .double)) (by decide) (by decide)))).ext E20).keep Kq24 nin0).other W30 (Or.inr (slot_ne (Or.inr (W hw 164)) (Or.inr (W hw 162)) (by decide) (t := (.array .double)) (t' := (.array .double)) (by decide) (by decide))))
  obtain ⟨T33, h33, X33, e33, W33, st33⟩ := putF X30 hx hZ hown (host := "") (Or.inl (W hw 163)) Via.refl e30 F32 F31 (Or.inr ⟨(W hw 164), rfl, hnm⟩) (W hw 3) (ty := (.array .double)) (by decide) rfl rfl (g := (mkF m 41 #[.val (.ref ob), .val (.ref xa), .val (.ref xa), .val (.int n)] [.null, (.ref ob)])) rfl rfl (hb hby d1_41)
  have Fw33 := F32.same W33
  have Ca33 := CHr.wr W33 (Safe.exa hZ.alike F31 (by decide) (by decide)) C30.1
  have z33 : h33.size = h30.size := W33.size
  have C33 := C30.trans Ca33
  have N33 := Fr.snoc X33 N30 gn19
  have K33 : Keep h0 h33 [ob] := K30.wr W33 (Or.inl (List.mem_of_getElem? (i := 0) rfl))
  refine Comes.st st33 ?_
  show Comes p e below _ (T33.setTop (mkF m 44 #[.val (.ref ob), .val (.ref xa), .val (.ref xa), .val (.int n)] []))
  refine Comes.st (fun t k => XS.aloadN X33.here hx rfl (hb hby d1_44) rfl rfl (XS.aconstNull X33.here hx rfl (hb hby d1_45) k)) ?_
  show Comes p e below _ (T33.setTop (mkF m 46 #[.val (.ref ob), .val (.ref xa), .val (.ref xa), .val (.int n)] [.null, (.ref ob)]))
  have F34 : Exa Z h33 ob "com/example/ordr/ordr/model/BoxSizes" := (F31.wr W33)
  have F35 : Fld Z h33 ob "com/example/ordr/ordr/model/BoxSizes" "labelHeights" "[D" .null := ((((((((G4.ext E2).ext E8).keep Kq12 nin0).other W18 (Or.inr (slot_ne (Or.inr (W hw 166)) (Or.inr (W hw 159)) (by decide) (t := (.array .double)) (t' := (.array .double)) (by decide) (by decide)))).ext E20).keep Kq24 nin0).other W30 (Or.inr (slot_ne (Or.inr (W hw 166)) (Or.inr (W hw 162)) (by decide) (t := (.array .double)) (t' := (.array .double)) (by decide) (by decide)))).other W33 (Or.inr (slot_ne (Or.inr (W hw 166)) (Or.inr (W hw 164)) (by decide) (t := (.array .double)) (t' := (.array .double)) (by decide) (by decide))))
  obtain ⟨T36, h36, X36, e36, W36, st36⟩ := putF X33 hx hZ hown (host := "") (Or.inl (W hw 165)) Via.refl e33 F35 F34 (Or.inr ⟨(W hw 166), rfl, hnm⟩) (W hw 3) (ty := (.array .double)) (by decide) rfl rfl (g := (mkF m 46 #[.val (.ref ob), .val (.ref xa), .val (.ref xa), .val (.int n)] [.null, (.ref ob)])) rfl rfl (hb hby d1_46)
  have Fw36 := F35.same W36
  have Ca36 := CHr.wr W36 (Safe.exa hZ.alike F34 (by decide) (by decide)) C33.1
  have z36 : h36.size = h33.size := W36.size
  have C36 := C33.trans Ca36
  have N36 := Fr.snoc X36 N33 gn19
  have K36 : Keep h0 h36 [ob] := K33.wr W36 (Or.inl (List.mem_of_getElem? (i := 0) rfl))
  refine Comes.st st36 ?_
  show Comes p e below _ (T36.setTop (mkF m 49 #[.val (.ref ob), .val (.ref xa), .val (.ref xa), .val (.int n)] []))
  refine Comes.st (fun t k => XS.aloadN X36.here hx rfl (hb hby d1_49) rfl rfl (XS.aconstNull X36.here hx rfl (hb hby d1_50) k)) ?_
  show Comes p e below _ (T36.setTop (mkF m 51 #[.val (.ref ob), .val (.ref xa), .val (.ref xa), .val (.int n)] [.null, (.ref ob)]))
  have F37 : Exa Z h36 ob "com/example/ordr/ordr/model/BoxSizes" := (F34.wr W36)
  have F38 : Fld Z h36 ob "com/example/ordr/ordr/model/BoxSizes" "labelOffsetXs" "[D" .null := (((((((((G5.ext E2).ext E8).keep Kq12 nin0).other W18 (Or.inr (slot_ne (Or.inr (W hw 168)) (Or.inr (W hw 159)) (by decide) (t := (.array .double)) (t' := (.array .double)) (by decide) (by decide)))).ext E20).keep Kq24 nin0).other W30 (Or.inr (slot_ne (Or.inr (W hw 168)) (Or.inr (W hw 162)) (by decide) (t := (.array .double)) (t' := (.array .double)) (by decide) (by decide)))).other W33 (Or.inr (slot_ne (Or.inr (W hw 168)) (Or.inr (W hw 164)) (by decide) (t := (.array .double)) (t' := (.array .double)) (by decide) (by decide)))).other W36 (Or.inr (slot_ne (Or.inr (W hw 168)) (Or.inr (W hw 166)) (by decide) (t := (.array .double)) (t' := (.array .double)) (by decide) (by decide))))
  obtain ⟨T39, h39, X39, e39, W39, st39⟩ := putF X36 hx hZ hown (host := "") (Or.inl (W hw 167)) Via.refl e36 F38 F37 (Or.inr ⟨(W hw 168), rfl, hnm⟩) (W hw 3) (ty := (.array .double)) (by decide) rfl rfl (g := (mkF m 51 #[.val (.ref ob), .val (.ref xa), .val (.ref xa), .val (.int n)] [.null, (.ref ob)])) rfl rfl (hb hby d1_51)
  have Fw39 := F38.same W39
  have Ca39 := CHr.wr W39 (Safe.exa hZ.alike F37 (by decide) (by decide)) C36.1
  have z39 : h39.size = h36.size := W39.size
  have C39 := C36.trans Ca39
  have N39 := Fr.snoc X39 N36 gn19
  have K39 : Keep h0 h39 [ob] := K36.wr W39 (Or.inl (List.mem_of_getElem? (i := 0) rfl))
  refine Comes.st st39 ?_
  show Comes p e below _ (T39.setTop (mkF m 54 #[.val (.ref ob), .val (.ref xa), .val (.ref xa), .val (.int n)] []))
  refine Comes.st (fun t k => XS.aloadN X39.here hx rfl (hb hby d1_54) rfl rfl (XS.aconstNull X39.here hx rfl (hb hby d1_55) k)) ?_
  show Comes p e below _ (T39.setTop (mkF m 56 #[.val (.ref ob), .val (.ref xa), .val (.ref xa), .val (.int n)] [.null, (.ref ob)]))
  have F40 : Exa Z h39 ob "com/example/ordr/ordr/model/BoxSizes" := (F37.wr W39)
  have F41 : Fld Z h39 ob "com/example/ordr/ordr/model/BoxSizes" "labelOffsetYs" "[D" .null := ((((((((((G6.ext E2).ext E8).keep Kq12 nin0).other W18 (Or.inr (slot_ne (Or.inr (W hw 170)) (Or.inr (W hw 159)) (by decide) (t := (.array .double)) (t' := (.array .double)) (by decide) (by decide)))).ext E20).keep Kq24 nin0).other W30 (Or.inr (slot_ne (Or.inr (W hw 170)) (Or.inr (W hw 162)) (by decide) (t := (.array .double)) (t' := (.array .double)) (by decide) (by decide)))).other W33 (Or.inr (slot_ne (Or.inr (W hw 170)) (Or.inr (W hw 164)) (by decide) (t := (.array .double)) (t' := (.array .double)) (by decide) (by decide)))).other W36 (Or.inr (slot_ne (Or.inr (W hw 170)) (Or.inr (W hw 166)) (by decide) (t := (.array .double)) (t' := (.array .double)) (by decide) (by decide)))).other W39 (Or.inr (slot_ne (Or.inr (W hw 170)) (Or.inr (W hw 168)) (by decide) (t := (.array .double)) (t' := (.array .double)) (by decide) (by decide))))
  obtain ⟨T42, h42, X42, e42, W42, st42⟩ := putF X39 hx hZ hown (host := "") (Or.inl (W hw 169)) Via.refl e39 F41 F40 (Or.inr ⟨(W hw 170), rfl, hnm⟩) (W hw 3) (ty := (.array .double)) (by decide) rfl rfl (g := (mkF m 56 #[.val (.ref ob), .val (.ref xa), .val (.ref xa), .val (.int n)] [.null, (.ref ob)])) rfl rfl (hb hby d1_56)
  have Fw42 := F41.same W42
  have Ca42 := CHr.wr W42 (Safe.exa hZ.alike F40 (by decide) (by decide)) C39.1
  have z42 : h42.size = h39.size := W42.size
  have C42 := C39.trans Ca42
  have N42 := Fr.snoc X42 N39 gn19
  have K42 : Keep h0 h42 [ob] := K39.wr W42 (Or.inl (List.mem_of_getElem? (i := 0) rfl))
  refine Comes.st st42 ?_
  show Comes p e below _ (T42.setTop (mkF m 59 #[.val (.ref ob), .val (.ref xa), .val (.ref xa), .val (.int n)] []))
  have F43 : Exa Z h42 ob "com/example/ordr/ordr/model/BoxSizes" := (F40.wr W42)
  have F44 : Fld Z h42 ob "com/example/ordr/ordr/model/BoxSizes" "widths" "[D" (.ref o13) := (((((((Fw18.ext E20).keep Kq24 nin0).other W30 (Or.inr (slot_ne (Or.inr (W hw 159)) (Or.inr (W hw 162)) (by decide) (t := (.array .double)) (t' := (.array .double)) (by decide) (by decide)))).other W33 (Or.inr (slot_ne (Or.inr (W hw 159)) (Or.inr (W hw 164)) (by decide) (t := (.array .double)) (t' := (.array .double)) (by decide) (by decide)))).other W36 (Or.inr (slot_ne (Or.inr (W hw 159)) (Or.inr (W hw 166)) (by decide) (t := (.array .double)) (t' := (.array .double)) (by decide) (by decide)))).other W39 (Or.inr (slot_ne (Or.inr (W hw 159)) (Or.inr (W hw 168)) (by decide) (t := (.array .double)) (t' := (.array .double)) (by decide) (by decide)))).other W42 (Or.inr (slot_ne (Or.inr (W hw 159)) (Or.inr (W hw 170)) (by decide) (t := (.array .double)) (t' := (.array .double)) (by decide) (by decide))))
  have F45 : Fld Z h42 ob "com/example/ordr/ordr/model/BoxSizes" "heights" "[D" (.ref o25) := ((((Fw30.other W33 (Or.inr (slot_ne (Or.inr (W hw 162)) (Or.inr (W hw 164)) (by decide) (t := (.array .double)) (t' := (.array .double)) (by decide) (by decide)))).other W36 (Or.inr (slot_ne (Or.inr (W hw 162)) (Or.inr (W hw 166)) (by decide) (t := (.array .double)) (t' := (.array .double)) (by decide) (by decide)))).other W39 (Or.inr (slot_ne (Or.inr (W hw 162)) (Or.inr (W hw 168)) (by decide) (t := (.array .double)) (t' := (.array .double)) (by decide) (by decide)))).other W42 (Or.inr (slot_ne (Or.inr (W hw 162)) (Or.inr (W hw 170)) (by decide) (t := (.array .double)) (t' := (.array .double)) (by decide) (by decide))))
  have F46 : Fld Z h42 ob "com/example/ordr/ordr/model/BoxSizes" "labelWidths" "[D" .null := (((Fw33.other W36 (Or.inr (slot_ne (Or.inr (W hw 164)) (Or.inr (W hw 166)) (by decide) (t := (.array .double)) (t' := (.array .double)) (by decide) (by decide)))).other W39 (Or.inr (slot_ne (Or.inr (W hw 164)) (Or.inr (W hw 168)) (by decide) (t := (.array .double)) (t' := (.array .double)) (by decide) (by decide)))).other W42 (Or.inr (slot_ne (Or.inr (W hw 164)) (Or.inr (W hw 170)) (by decide) (t := (.array .double)) (t' := (.array .double)) (by decide) (by decide))))
  have hkf : T24.heap.size ≤ h42.size := by omega
  exact Comes.hret0 X42 hx Bd.returns hlk (hb hby d1_59) hS24 hkf e42 ⟨o13, o25, rfl, N42, K42, F43, F44, F45, F46⟩ (by decide) (by decide) (by rw [hh]; exact C42) hZ (own_EW hw)
def Q_rm30 (Z : State) (ob pb ea eb c_ d_ ra rb : Nat) (h0 : Heap) (n0 : Nat) (v_ : Option Value) (h : Heap) (L_ : List Loc) : Prop := (v_ = none) ∧ (Fr n0 L_) ∧ (Keep h0 h [ob]) ∧ (Exa Z h ob "com/example/ordr/ordr/model/BoxSizes") ∧ (Fld Z h ob "com/example/ordr/ordr/model/BoxSizes" "widths" "[D" (.ref ra)) ∧ (Fld Z h ob "com/example/ordr/ordr/model/BoxSizes" "heights" "[D" (.ref rb)) ∧ (Fld Z h ob "com/example/ordr/ordr/model/BoxSizes" "labelWidths" "[D" (.ref ea))
theorem rm30 (l : Launch) (Z : State) (a0 : Array Value) (hw : ∀ d ∈ tables_1, d.before a0 Z = true) (ws : List Jvm.Cond) (ob pb ea eb c_ d_ ra rb : Nat) (h0 : Heap) (n0 : Nat) (Z0 : n0 ≤ h0.size) (G0 : Exa Z h0 ob "com/example/ordr/ordr/model/BoxSizes") (G1 : Fld Z h0 ob "com/example/ordr/ordr/model/BoxSizes" "widths" "[D" .null) (G2 : Fld Z h0 ob "com/example/ordr/ordr/model/BoxSizes" "heights" "[D" .null) (G3 : Fld Z h0 ob "com/example/ordr/ordr/model/BoxSizes" "labelWidths" "[D" .null) (G4 : Fld Z h0 ob "com/example/ordr/ordr/model/BoxSizes" "labelHeights" "[D" .null) (G5 : Fld Z h0 ob "com/example/ordr/ordr/model/BoxSizes" "labelOffsetXs" "[D" .null) (G6 : Fld Z h0 ob "com/example/ordr/ordr/model/BoxSizes" "labelOffsetYs" "[D" .null) (G7 : Fld Z h0 pb "com/example/ordr/ordr/model/BoxSizes" "widths" "[D" (.ref ra)) (G8 : Fld Z h0 pb "com/example/ordr/ordr/model/BoxSizes" "heights" "[D" (.ref rb)) (G9 : n0 ≤ ob) (G10 : pb ≠ ob) :
    MetFree l (⟨"com/example/ordr/ordr/model/BoxSizes", "<init>", "(Lcom/example/ordr/ordr/model/BoxSizes;[D[D[D[D)V"⟩ : MethodName) (head1 (Jvm.Cond.code (⟨"com/example/ordr/ordr/model/BoxSizes", "<init>", "(Lcom/example/ordr/ordr/model/BoxSizes;[D[D[D[D)V"⟩ : MethodName) prog_74_method_2_code 6 none :: ws) (Rm 1 0 0 12)) (fun a_ U_ => a_ = #[(.ref ob), (.ref pb), (.ref ea), (.ref eb), (.ref c_), (.ref d_)] ∧ Z.Warmed39 U_.vm ∧ U_.heap = h0) (fun _ _ _ _ _ => True) (fun _ U_ o_ V_ => ∃ v_ L_, o_ = .returned v_ ∧ Q_rm30 Z ob pb ea eb c_ d_ ra rb h0 n0 v_ V_.heap L_ ∧ FrameEnd U_ o_ V_ L_ (Rm 1 0 0 12).cells (Rm 1 0 0 12).slots) := by
  refine MetFree.of_bodySF (plainFor_of_name pn_30) hisR ?_
  intro p e s m args below meth c s₁ Bd hml0 hP hK
  obtain ⟨rfl, hZ, hh⟩ := hP
  have hx := Bd.exec
  have hby := Bd.bytes
  have hml : c.maxLocals = 6 := hml0
  have hown : s.vm.findClass "com/example/ordr/ordr/model/BoxSizes" = some m.cls := findClass_of_methodNamed Bd.named
  have hnm := (name_of_methodNamed Bd.named Bd.method).1
  have hlk : meth.locks = false := Bd.notSynchronized
  have X0 : Stand p l e (Rm 1 0 0 12) s m #[(.ref ob), (.ref pb), (.ref ea), (.ref eb), (.ref c_), (.ref d_)] below meth c s₁ [] 0 0 := Stand.of_body Bd
  have e0 : s₁.heap = h0 := by rw [← hh, Bd.state]; rfl
  have N0 := Fr.nil n0
  have K0 := Keep.refl h0 [ob]
  refine Comes.out (Q := Q_rm30 Z ob pb ea eb c_ d_ ra rb h0 n0) (kc := (Rm 1 0 0 12).cells) (ks := (Rm 1 0 0 12).slots) ?_
  refine Comes.cast (ef_rm30 m ob pb ea eb c_ d_) ?_
  have lt_ob : ob < h0.size := G0.lt
  have lt_pb : pb < h0.size := G7.lt
  show Comes p e below _ (s₁.setTop (mkF m 0 #[.val (.ref ob), .val (.ref pb), .val (.ref ea), .val (.ref eb), .val (.ref c_), .val (.ref d_)] []))
  refine Comes.st (fun t k => XS.aloadN X0.here hx rfl (hb hby d30_0) rfl rfl k) ?_
  show Comes p e below _ (s₁.setTop (mkF m 1 #[.val (.ref ob), .val (.ref pb), .val (.ref ea), .val (.ref eb), .val (.ref c_), .val (.ref d_)] [(.ref ob)]))
  obtain ⟨T1, X1, e1, st1⟩ := initO X0 hx hZ hown (W hw 8) (W hw 9) (W hw 10) e0 (g := (mkF m 1 #[.val (.ref ob), .val (.ref pb), .val (.ref ea), .val (.ref eb), .val (.ref c_), .val (.ref d_)] [(.ref ob)])) rfl (by rw [hml]; rfl) rfl (hb hby d30_1) (by decide) (W := 0) (by show 2 * 0 + _ ≤ _; exact Nat.le_of_eq rfl) (by decide)
  refine Comes.st st1 ?_
  show Comes p e below _ (T1.setTop (mkF m 4 #[.val (.ref ob), .val (.ref pb), .val (.ref ea), .val (.ref eb), .val (.ref c_), .val (.ref d_)] []))
  refine Comes.st (fun t k => XS.aloadN X1.here hx rfl (hb hby d30_4) rfl rfl (XS.aloadN X1.here hx rfl (hb hby d30_5) rfl rfl k)) ?_
  show Comes p e below _ (T1.setTop (mkF m 6 #[.val (.ref ob), .val (.ref pb), .val (.ref ea), .val (.ref eb), .val (.ref c_), .val (.ref d_)] [(.ref pb), (.ref ob)]))
  obtain ⟨T2, X2, e2, st2⟩ := getF X1 hx hZ hown (host := "") (Or.inl (W hw 158)) Via.refl e1 G7 (g := (mkF m 6 #[.val (.ref ob), .val (.ref pb), .val (.ref ea), .val (.ref eb), .val (.ref c_), .val (.ref d_)] [(.ref pb), (.ref ob)])) rfl rfl (hb hby d30_6)
  refine Comes.st st2 ?_
  show Comes p e below _ (T2.setTop (mkF m 9 #[.val (.ref ob), .val (.ref pb), .val (.ref ea), .val (.ref eb), .val (.ref c_), .val (.ref d_)] [(.ref ra), (.ref ob)]))
  obtain ⟨T3, h3, X3, e3, W3, st3⟩ := putF X2 hx hZ hown (host := "") (Or.inl (W hw 158)) Via.refl e2 G1 G0 (Or.inr ⟨(W hw 159), rfl, hnm⟩) (W hw 3) (ty := (.array .double)) (by decide) rfl rfl (g := (mkF m 9 #[.val (.ref ob), .val (.ref pb), .val (.ref ea), .val (.ref eb), .val (.ref c_), .val (.ref d_)] [(.ref ra), (.ref ob)])) rfl rfl (hb hby d30_9)
  have Fw3 := G1.same W3
  have z3 : h3.size = h0.size := W3.size
  have gn4 : n0 ≤ ob := by omega
  have N3 := Fr.snoc X3 N0 gn4
  have K3 : Keep h0 h3 [ob] := K0.wr W3 (Or.inl (List.mem_of_getElem? (i := 0) rfl))
  refine Comes.st st3 ?_
  show Comes p e below _ (T3.setTop (mkF m 12 #[.val (.ref ob), .val (.ref pb), .val (.ref ea), .val (.ref eb), .val (.ref c_), .val (.ref d_)] []))
  refine Comes.st (fun t k => XS.aloadN X3.here hx rfl (hb hby d30_12) rfl rfl (XS.aloadN X3.here hx rfl (hb hby d30_13) rfl rfl k)) ?_
  show Comes p e below _ (T3.setTop (mkF m 14 #[.val (.ref ob), .val (.ref pb), .val (.ref ea), .val (.ref eb), .val (.ref c_), .val (.ref d_)] [(.ref pb), (.ref ob)]))
  have F5 : Fld Z h3 pb "com/example/ordr/ordr/model/BoxSizes" "heights" "[D" (.ref rb) := (G8.other W3 (Or.inl G10))
  obtain ⟨T6, X6, e6, st6⟩ := getF X3 hx hZ hown (host := "") (Or.inl (W hw 161)) Via.refl e3 F5 (g := (mkF m 14 #[.val (.ref ob), .val (.ref pb), .val (.ref ea), .val (.ref eb), .val (.ref c_), .val (.ref d_)] [(.ref pb), (.ref ob)])) rfl rfl (hb hby d30_14)
  refine Comes.st st6 ?_
  show Comes p e below _ (T6.setTop (mkF m 17 #[.val (.ref ob), .val (.ref pb), .val (.ref ea), .val (.ref eb), .val (.ref c_), .val (.ref d_)] [(.ref rb), (.ref ob)]))
  have F7 : Exa Z h3 ob "com/example/ordr/ordr/model/BoxSizes" := (G0.wr W3)
  have F8 : Fld Z h3 ob "com/example/ordr/ordr/model/BoxSizes" "heights" "[D" .null := (G2.other W3 (Or.inr (slot_ne (Or.inr (W hw 162)) (Or.inr (W hw 159)) (by decide) (t := (.array .double)) (t' := (.array .double)) (by decide) (by decide))))
  obtain ⟨T9, h9, X9, e9, W9, st9⟩ := putF X6 hx hZ hown (host := "") (Or.inl (W hw 161)) Via.refl e6 F8 F7 (Or.inr ⟨(W hw 162), rfl, hnm⟩) (W hw 3) (ty := (.array .double)) (by decide) rfl rfl (g := (mkF m 17 #[.val (.ref ob), .val (.ref pb), .val (.ref ea), .val (.ref eb), .val (.ref c_), .val (.ref d_)] [(.ref rb), (.ref ob)])) rfl rfl (hb hby d30_17)
  have Fw9 := F8.same W9
  have z9 : h9.size = h3.size := W9.size
  have N9 := Fr.snoc X9 N3 gn4
  have K9 : Keep h0 h9 [ob] := K3.wr W9 (Or.inl (List.mem_of_getElem? (i := 0) rfl))
  refine Comes.st st9 ?_
  show Comes p e below _ (T9.setTop (mkF m 20 #[.val (.ref ob), .val (.ref pb), .val (.ref ea), .val (.ref eb), .val (.ref c_), .val (.ref d_)] []))
  refine Comes.st (fun t k => XS.aloadN X9.here hx rfl (hb hby d30_20) rfl rfl (XS.aloadN X9.here hx rfl (hb hby d30_21) rfl rfl k)) ?_
  show Comes p e below _ (T9.setTop (mkF m 22 #[.val (.ref ob), .val (.ref pb), .val (.ref ea), .val (.ref eb), .val (.ref c_), .val (.ref d_)] [(.ref ea), (.ref ob)]))
  have F10 : Exa Z h9 ob "com/example/ordr/ordr/model/BoxSizes" := (F7.wr W9)
  have F11 : Fld Z h9 ob "com/example/ordr/ordr/model/BoxSizes" "labelWidths" "[D" .null := ((G3.other W3 (Or.inr (slot_ne (Or.inr (W hw 164)) (Or.inr (W hw 159)) (by decide) (t := (.array .double)) (t' := (.array .double)) (by decide) (by decide)))).other W9 (Or.inr (slot_ne (Or.inr (W hw 164)) (Or.inr (W hw 162)) (by decide) (t := (.array .double)) (t' := (.array .double)) (by decide) (by decide))))
  obtain ⟨T12, h12, X12, e12, W12, st12⟩ := putF X9 hx hZ hown (host := "") (Or.inl (W hw 163)) Via.refl e9 F11 F10 (Or.inr ⟨(W hw 164), rfl, hnm⟩) (W hw 3) (ty := (.array .double)) (by decide) rfl rfl (g := (mkF m 22 #[.val (.ref ob), .val (.ref pb), .val (.ref ea), .val (.ref eb), .val (.ref c_), .val (.ref d_)] [(.ref ea), (.ref ob)])) rfl rfl (hb hby d30_22)
  have Fw12 := F11.same W12
  have z12 : h12.size = h9.size := W12.size
  have N12 := Fr.snoc X12 N9 gn4
  have K12 : Keep h0 h12 [ob] := K9.wr W12 (Or.inl (List.mem_of_getElem? (i := 0) rfl))
  refine Comes.st st12 ?_
  show Comes p e below _ (T12.setTop (mkF m 25 #[.val (.ref ob), .val (.ref pb), .val (.ref ea), .val (.ref eb), .val (.ref c_), .val (.ref d_)] []))
  refine Comes.st (fun t k => XS.aloadN X12.here hx rfl (hb hby d30_25) rfl rfl (XS.aloadN X12.here hx rfl (hb hby d30_26) rfl rfl k)) ?_
  show Comes p e below _ (T12.setTop (mkF m 27 #[.val (.ref ob), .val (.ref pb), .val (.ref ea), .val (.ref eb), .val (.ref c_), .val (.ref d_)] [(.ref eb), (.ref ob)]))
  have F13 : Exa Z h12 ob "com/example/ordr/ordr/model/BoxSizes" := (F10.wr W12)
  have F14 : Fld Z h12 ob "com/example/ordr/ordr/model/BoxSizes" "labelHeights" "[D" .null := (((G4.other W3 (Or.inr (slot_ne (Or.inr (W hw 166)) (Or.inr (W hw 159)) (by decide) (t := (.array .double)) (t' := (.array .double)) (by decide) (by decide)))).other W9 (Or.inr (slot_ne (Or.inr (W hw 166)) (Or.inr (W hw 162)) (by decide) (t := (.array .double)) (t' := (.array .double)) (by decide) (by decide)))).other W12 (Or.inr (slot_ne (Or.inr (W hw 166)) (Or.inr (W hw 164)) (by decide) (t := (.array .double)) (t' := (.array .double)) (by decide) (by decide))))
  obtain ⟨T15, h15, X15, e15, W15, st15⟩ := putF X12 hx hZ hown (host := "") (Or.inl (W hw 165)) Via.refl e12 F14 F13 (Or.inr ⟨(W hw 166), rfl, hnm⟩) (W hw 3) (ty := (.array .double)) (by decide) rfl rfl (g := (mkF m 27 #[.val (.ref ob), .val (.ref pb), .val (.ref ea), .val (.ref eb), .val (.ref c_), .val (.ref d_)] [(.ref eb), (.ref ob)])) rfl rfl (hb hby d30_27)
  have Fw15 := F14.same W15
  have z15 : h15.size = h12.size := W15.size
  have N15 := Fr.snoc X15 N12 gn4
  have K15 : Keep h0 h15 [ob] := K12.wr W15 (Or.inl (List.mem_of_getElem? (i := 0) rfl))
  refine Comes.st st15 ?_
  show Comes p e below _ (T15.setTop (mkF m 30 #[.val (.ref ob), .val (.ref pb), .val (.ref ea), .val (.ref eb), .val (.ref c_), .val (.ref d_)] []))
  refine Comes.st (fun t k => XS.aloadN X15.here hx rfl (hb hby d30_30) rfl rfl (XS.aload X15.here hx rfl (hb hby d30_31) rfl rfl k)) ?_
  show Comes p e below _ (T15.setTop (mkF m 33 #[.val (.ref ob), .val (.ref pb), .val (.ref ea), .val (.ref eb), .val (.ref c_), .val (.ref d_)] [(.ref c_), (.ref ob)]))
  have F16 : Exa Z h15 ob "com/example/ordr/ordr/model/BoxSizes" := (F13.wr W15)
  have F17 : Fld Z h15 ob "com/example/ordr/ordr/model/BoxSizes" "labelOffsetXs" "[D" .null := ((((G5.other W3 (Or.inr (slot_ne (Or.inr (W hw 168)) (Or.inr (W hw 159)) (by decide) (t := (.array .double)) (t' := (.array .double)) (by decide) (by decide)))).other W9 (Or.inr (slot_ne (Or.inr (W hw 168)) (Or.inr (W hw 162)) (by decide) (t := (.array .double)) (t' := (.array .double)) (by decide) (by decide)))).other W12 (Or.inr (slot_ne (Or.inr (W hw 168)) (Or.inr (W hw 164)) (by decide) (t := (.array .double)) (t' := (.array .double)) (by decide) (by decide)))).other W15 (Or.inr (slot_ne (Or.inr (W hw 168)) (Or.inr (W hw 166)) (by decide) (t := (.array .double)) (t' := (.array .double)) (by decide) (by decide))))
  obtain ⟨T18, h18, X18, e18, W18, st18⟩ := putF X15 hx hZ hown (host := "") (Or.inl (W hw 167)) Via.refl e15 F17 F16 (Or.inr ⟨(W hw 168), rfl, hnm⟩) (W hw 3) (ty := (.array .double)) (by decide) rfl rfl (g := (mkF m 33 #[.val (.ref ob), .val (.ref pb), .val (.ref ea), .val (.ref eb), .val (.ref c_), .val (.ref d_)] [(.ref c_), (.ref ob)])) rfl rfl (hb hby d30_33)
  have Fw18 := F17.same W18
  have z18 : h18.size = h15.size := W18.size
  have N18 := Fr.snoc X18 N15 gn4
  have K18 : Keep h0 h18 [ob] := K15.wr W18 (Or.inl (List.mem_of_getElem? (i := 0) rfl))
  refine Comes.st st18 ?_
  show Comes p e below _ (T18.setTop (mkF m 36 #[.val (.ref ob), .val (.ref pb), .val (.ref ea), .val (.ref eb), .val (.ref c_), .val (.ref d_)] []))
  refine Comes.st (fun t k => XS.aloadN X18.here hx rfl (hb hby d30_36) rfl rfl (XS.aload X18.here hx rfl (hb hby d30_37) rfl rfl k)) ?_
  show Comes p e below _ (T18.setTop (mkF m 39 #[.val (.ref ob), .val (.ref pb), .val (.ref ea), .val (.ref eb), .val (.ref c_), .val (.ref d_)] [(.ref d_), (.ref ob)]))
  have F19 : Exa Z h18 ob "com/example/ordr/ordr/model/BoxSizes" := (F16.wr W18)
  have F20 : Fld Z h18 ob "com/example/ordr/ordr/model/BoxSizes" "labelOffsetYs" "[D" .null := (((((G6.other W3 (Or.inr (slot_ne (Or.inr (W hw 170)) (Or.inr (W hw 159)) (by decide) (t := (.array .double)) (t' := (.array .double)) (by decide) (by decide)))).other W9 (Or.inr (slot_ne (Or.inr (W hw 170)) (Or.inr (W hw 162)) (by decide) (t := (.array .double)) (t' := (.array .double)) (by decide) (by decide)))).other W12 (Or.inr (slot_ne (Or.inr (W hw 170)) (Or.inr (W hw 164)) (by decide) (t := (.array .double)) (t' := (.array .double)) (by decide) (by decide)))).other W15 (Or.inr (slot_ne (Or.inr (W hw 170)) (Or.inr (W hw 166)) (by decide) (t := (.array .double)) (t' := (.array .double)) (by decide) (by decide)))).other W18 (Or.inr (slot_ne (Or.inr (W hw 170)) (Or.inr (W hw 168)) (by decide) (t := (.array .double)) (t' := (.array .double)) (by decide) (by decide))))
  obtain ⟨T21, h21, X21, e21, W21, st21⟩ := putF X18 hx hZ hown (host := "") (Or.inl (W hw 169)) Via.refl e18 F20 F19 (Or.inr ⟨(W hw 170), rfl, hnm⟩) (W hw 3) (ty := (.array .double)) (by decide) rfl rfl (g := (mkF m 39 #[.val (.ref ob), .val (.ref pb), .val (.ref ea), .val (.ref eb), .val (.ref c_), .val (.ref d_)] [(.ref d_), (.ref ob)])) rfl rfl (hb hby d30_39)
  have Fw21 := F20.same W21
  have z21 : h21.size = h18.size := W21.size
  have N21 := Fr.snoc X21 N18 gn4
  have K21 : Keep h0 h21 [ob] := K18.wr W21 (Or.inl (List.mem_of_getElem? (i := 0) rfl))
  refine Comes.st st21 ?_
  show Comes p e below _ (T21.setTop (mkF m 42 #[.val (.ref ob), .val (.ref pb), .val (.ref ea), .val (.ref eb), .val (.ref c_), .val (.ref d_)] []))
  have F22 : Exa Z h21 ob "com/example/ordr/ordr/model/BoxSizes" := (F19.wr W21)
  have F23 : Fld Z h21 ob "com/example/ordr/ordr/model/BoxSizes" "widths" "[D" (.ref ra) := (((((Fw3.other W9 (Or.inr (slot_ne (Or.inr (W hw 159)) (Or.inr (W hw 162)) (by decide) (t := (.array .double)) (t' := (.array .double)) (by decide) (by decide)))).other W12 (Or.inr (slot_ne (Or.inr (W hw 159)) (Or.inr (W hw 164)) (by decide) (t := (.array .double)) (t' := (.array .double)) (by decide) (by decide)))).other W15 (Or.inr (slot_ne (Or.inr (W hw 159)) (Or.inr (W hw 166)) (by decide) (t := (.array .double)) (t' := (.array .double)) (by decide) (by decide)))).other W18 (Or.inr (slot_ne (Or.inr (W hw 159)) (Or.inr (W hw 168)) (by decide) (t := (.array .double)) (t' := (.array .double)) (by decide) (by decide)))).other W21 (Or.inr (slot_ne (Or.inr (W hw 159)) (Or.inr (W hw 170)) (by decide) (t := (.array .double)) (t' := (.array .double)) (by decide) (by decide))))
  have F24 : Fld Z h21 ob "com/example/ordr/ordr/model/BoxSizes" "heights" "[D" (.ref rb) := ((((Fw9.other W12 (Or.inr (slot_ne (Or.inr (W hw 162)) (Or.inr (W hw 164)) (by decide) (t := (.array .double)) (t' := (.array .double)) (by decide) (by decide)))).other W15 (Or.inr (slot_ne (Or.inr (W hw 162)) (Or.inr (W hw 166)) (by decide) (t := (.array .double)) (t' := (.array .double)) (by decide) (by decide)))).other W18 (Or.inr (slot_ne (Or.inr (W hw 162)) (Or.inr (W hw 168)) (by decide) (t := (.array .double)) (t' := (.array .double)) (by decide) (by decide)))).other W21 (Or.inr (slot_ne (Or.inr (W hw 162)) (Or.inr (W hw 170)) (by decide) (t := (.array .double)) (t' := (.array .double)) (by decide) (by decide))))
  have F25 : Fld Z h21 ob "com/example/ordr/ordr/model/BoxSizes" "labelWidths" "[D" (.ref ea) := (((Fw12.other W15 (Or.inr (slot_ne (Or.inr (W hw 164)) (Or.inr (W hw 166)) (by decide) (t := (.array .double)) (t' := (.array .double)) (by decide) (by decide)))).other W18 (Or.inr (slot_ne (Or.inr (W hw 164)) (Or.inr (W hw 168)) (by decide) (t := (.array .double)) (t' := (.array .double)) (by decide) (by decide)))).other W21 (Or.inr (slot_ne (Or.inr (W hw 164)) (Or.inr (W hw 170)) (by decide) (t := (.array .double)) (t' := (.array .double)) (by decide) (by decide))))
  exact Comes.ret0 X21 hx Bd.returns hlk (hb hby d30_42) e21 ⟨rfl, N21, K21, F22, F23, F24, F25⟩ (by decide) (by decide)
def Q_rm27 (Z : State) (ob xa : Nat) (ka : ClassId) (n : Int32) (ra rb : Nat) (cs : Int32) (h0 : Heap) (n0 : Nat) (v_ : Option Value) (h : Heap) (L_ : List Loc) : Prop := ∃ (r : Nat), ∃ (q : Nat), ∃ (kq : ClassId), (v_ = some (.ref r)) ∧ (Fr n0 L_) ∧ (Keep h0 h []) ∧ (Exa Z h r "com/example/ordr/ordr/model/BoxSizes") ∧ (Fld Z h r "com/example/ordr/ordr/model/BoxSizes" "widths" "[D" (.ref ra)) ∧ (Fld Z h r "com/example/ordr/ordr/model/BoxSizes" "heights" "[D" (.ref rb)) ∧ (Fld Z h r "com/example/ordr/ordr/model/BoxSizes" "labelWidths" "[D" (.ref q)) ∧ (Arv Z h q kq .double n [] (.double (0 : UInt64)))
theorem rm27 (l : Launch) (Z : State) (a0 : Array Value) (hw : ∀ d ∈ tables_1, d.before a0 Z = true) (ws : List Jvm.Cond) (ob xa : Nat) (ka : ClassId) (n : Int32) (ra rb : Nat) (cs : Int32) (h0 : Heap) (n0 : Nat) (Z0 : n0 ≤ h0.size) (G0 : Exa Z h0 ob "com/example/ordr/ordr/model/BoxSizes") (G1 : Fld Z h0 ob "com/example/ordr/ordr/model/BoxSizes" "widths" "[D" (.ref ra)) (G2 : Fld Z h0 ob "com/example/ordr/ordr/model/BoxSizes" "heights" "[D" (.ref rb)) (G3 : Arv Z h0 xa ka .double n [] (.double (0 : UInt64))) (G4 : Exa Z h0 xa "[D") (G5 : 0 ≤ n.toInt ∧ n.toInt ≤ 7) (G6 : Sta Z Z.heap "java/lang/String" "COMPACT_STRINGS" "Z" (.int cs)) (G7 : ¬ (cs = (0 : Int32))) (G8 : Old Z n0 h0) :
    MetFree l (⟨"com/example/ordr/ordr/model/BoxSizes", "withLabels", "([D[D[D[D)Lcom/example/ordr/ordr/model/BoxSizes;"⟩ : MethodName) (head1 (Jvm.Cond.code (⟨"com/example/ordr/ordr/model/BoxSizes", "withLabels", "([D[D[D[D)Lcom/example/ordr/ordr/model/BoxSizes;"⟩ : MethodName) prog_74_method_3_code 8 (some (.object "com/example/ordr/ordr/model/BoxSizes")) :: ws) (Rm 7 39 527 122)) (fun a_ U_ => a_ = #[(.ref ob), (.ref xa), (.ref xa), (.ref xa), (.ref xa)] ∧ Z.Warmed39 U_.vm ∧ U_.heap = h0 ∧ CHv Z consts_1 U_.vm h0) (fun _ _ _ _ _ => True) (fun _ U_ o_ V_ => ∃ v_ L_, o_ = .returned v_ ∧ Q_rm27 Z ob xa ka n ra rb cs h0 n0 v_ V_.heap L_ ∧ CHr Z consts_1 U_.vm U_.heap V_.vm V_.heap ∧ ReturnedEndW U_ o_ V_ L_ (Rm 7 39 527 122).cells (Rm 7 39 527 122).slots) := by
  refine MetFree.of_bodySF (plainFor_of_name pn_27) hisR ?_
  intro p e s m args below meth c s₁ Bd hml0 hP hK
  obtain ⟨rfl, hZ, hh, hC0⟩ := hP
  have hx := Bd.exec
  have hby := Bd.bytes
  have hml : c.maxLocals = 8 := hml0
  have hown : s.vm.findClass "com/example/ordr/ordr/model/BoxSizes" = some m.cls := findClass_of_methodNamed Bd.named
  have hnm := (name_of_methodNamed Bd.named Bd.method).1
  have hlk : meth.locks = false := Bd.notSynchronized
  have X0 : Stand p l e (Rm 7 39 527 122) s m #[(.ref ob), (.ref xa), (.ref xa), (.ref xa), (.ref xa)] below meth c s₁ [] 0 0 := Stand.of_body Bd
  have e0 : s₁.heap = h0 := by rw [← hh, Bd.state]; rfl
  have N0 := Fr.nil n0
  have X0 := own_base X0
  have hZ : Z.Warmed39 (s.setVm s.vm).vm := hZ
  have C0 := CHr.refl hC0
  have hS0 : s.Since s.vm 0 := (State.WarmedH.refl s).since 0
  have K0 := Keep.refl h0 []
  refine Comes.outH (EL := consts_1) (Z := Z) (Q := Q_rm27 Z ob xa ka n ra rb cs h0 n0) (kc := (Rm 7 39 527 122).cells) (ks := (Rm 7 39 527 122).slots) ?_
  refine Comes.cast (ef_rm27 m ob xa xa xa xa) ?_
  have lt_ob : ob < h0.size := G0.lt
  have lt_xa : xa < h0.size := G3.lt
  show Comes p e below _ (s₁.setTop (mkF m 0 #[.val (.ref ob), .val (.ref xa), .val (.ref xa), .val (.ref xa), .val (.ref xa), .unset, .unset, .unset] []))
  refine Comes.st (fun t k => XS.aloadN X0.here hx rfl (hb hby d27_0) rfl rfl k) ?_
  obtain ⟨b1, T1, h1, k1, X1, e1, E1, hS1, hk1, hZ, hown, Ca1, -, st1⟩ := ldcOH (s := s) (vm0 := s.vm) X0 hx hZ hown (W hw 11) (fun d hd => by simp only [Bundle.stringAtoms, List.mem_cons, List.not_mem_nil, or_false] at hd; rcases hd with rfl | rfl | rfl | rfl | rfl | rfl | rfl; exact hw _ (List.mem_of_getElem? (i := 12) rfl); exact hw _ (List.mem_of_getElem? (i := 13) rfl); exact hw _ (List.mem_of_getElem? (i := 14) rfl); exact hw _ (List.mem_of_getElem? (i := 15) rfl); exact hw _ (List.mem_of_getElem? (i := 16) rfl); exact hw _ (List.mem_of_getElem? (i := 17) rfl); exact hw _ (List.mem_of_getElem? (i := 18) rfl)) e0 hS0 (Nat.zero_le _) (own_EW hw) C0.1 (g := (mkF m 1 #[.val (.ref ob), .val (.ref xa), .val (.ref xa), .val (.ref xa), .val (.ref xa), .unset, .unset, .unset] [(.ref xa)])) rfl (hb hby d27_1) (n := 56) (by decide) (by decide) (by decide) (by decide)
  have z1 : h0.size ≤ h1.size := E1.1
  have C1 := C0.trans Ca1
  have K1 : Keep h0 h1 [] := K0.ext E1
  refine Comes.st st1 ?_
  show Comes p e below _ (T1.setTop (mkF m 3 #[.val (.ref ob), .val (.ref xa), .val (.ref xa), .val (.ref xa), .val (.ref xa), .unset, .unset, .unset] [(.ref b1), (.ref xa)]))
  obtain ⟨_, _, ⟨T2, L2, k2, n2⟩, -, X2, ⟨Lc2, hQ2, l2, y2, z2⟩, st2⟩ := Jvm.LawKit.callS X1 hx (y := (⟨"java/util/Objects", "requireNonNull", "(Ljava/lang/Object;Ljava/lang/String;)Ljava/lang/Object;"⟩ : MethodName)) hown (mvT hZ (W hw 19)) (mvT hZ (W hw 20)) (mvT hZ (W hw 21)) (mvT hZ (W hw 22)) (by decide) (backOf (W := 0) (rm3 l Z a0 hw [] xa b1 h1 n0 (by omega)  ) hZ (W hw 22) (W hw 21) (by decide) (by decide)) (g := (mkF m 3 #[.val (.ref ob), .val (.ref xa), .val (.ref xa), .val (.ref xa), .val (.ref xa), .unset, .unset, .unset] [(.ref b1), (.ref xa)])) rfl (by rw [hml]; rfl) (argsL := [(.ref xa), (.ref b1)]) (rest := []) (lenOf pd_19 rfl) rfl (by show 2 * 0 + _ ≤ _; exact Nat.le_of_eq rfl) (hb hby d27_3) (fun _ _ => ⟨rfl, e1, (by decide : 2 + 0 ≤ _), (by decide : 60 + 0 ≤ _)⟩)
  dsimp only [Pt.U, Pt.locs, Pt.cells, Pt.slots] at X2 l2 y2 z2 st2 hQ2
  subst l2 y2 z2
  obtain ⟨rfl, Nq2, hs2⟩ := hQ2
  have N2 := Fr.app N0 Nq2
  refine Comes.st st2 ?_
  show Comes p e below _ (T2.setTop (mkF m 6 #[.val (.ref ob), .val (.ref xa), .val (.ref xa), .val (.ref xa), .val (.ref xa), .unset, .unset, .unset] [(.ref xa)]))
  have F3 : Exa Z h1 xa "[D" := (G4.ext E1)
  obtain ⟨T4, X4, e4, st4⟩ := castY X2 hx hZ hown (W hw 23) hs2 (Ins.self F3) (g := (mkF m 6 #[.val (.ref ob), .val (.ref xa), .val (.ref xa), .val (.ref xa), .val (.ref xa), .unset, .unset, .unset] [(.ref xa)])) rfl rfl (hb hby d27_6)
  refine Comes.st st4 ?_
  show Comes p e below _ (T4.setTop (mkF m 9 #[.val (.ref ob), .val (.ref xa), .val (.ref xa), .val (.ref xa), .val (.ref xa), .unset, .unset, .unset] [(.ref xa)]))
  have F5 : Arv Z h1 xa ka .double n [] (.double (0 : UInt64)) := (G3.ext E1)
  obtain ⟨cl6, Ar6, -, S6, Ng6, -, -⟩ := id F5
  refine Comes.st (fun t k => X4.arraylength hx (by rw [e4]; exact Ar6.1) (State.isArrayOf_alike hZ.alike Ar6.2.1) (g := (mkF m 9 #[.val (.ref ob), .val (.ref xa), .val (.ref xa), .val (.ref xa), .val (.ref xa), .unset, .unset, .unset] [(.ref xa)])) rfl rfl (hb hby d27_9) _ k) ?_
  rw [len_of S6 Ng6]
  show Comes p e below _ (T4.setTop (mkF m 10 #[.val (.ref ob), .val (.ref xa), .val (.ref xa), .val (.ref xa), .val (.ref xa), .unset, .unset, .unset] [(.int n)]))
  refine Comes.st (fun t k => XS.istore X4.here hx rfl (hb hby d27_10) rfl (l' := #[.val (.ref ob), .val (.ref xa), .val (.ref xa), .val (.ref xa), .val (.ref xa), .val (.int n), .unset, .unset]) rfl (X4.ldc2DoubleC hx hown (mvT hZ (W hw 176)) (g := (mkF m 12 #[.val (.ref ob), .val (.ref xa), .val (.ref xa), .val (.ref xa), .val (.ref xa), .val (.int n), .unset, .unset] [])) rfl (hb hby d27_12) _ (XS.dstore X4.here hx rfl (hb hby d27_15) rfl (l' := #[.val (.ref ob), .val (.ref xa), .val (.ref xa), .val (.ref xa), .val (.ref xa), .val (.int n), .val (.double (18442240474082181120 : UInt64)), .second]) rfl k))) ?_
  show Comes p e below _ (T4.setTop (mkF m 17 #[.val (.ref ob), .val (.ref xa), .val (.ref xa), .val (.ref xa), .val (.ref xa), .val (.int n), .val (.double (18442240474082181120 : UInt64)), .second] []))
  obtain ⟨T7, h7, X7, e7, E7, A7, D7, -, st7⟩ := newO X4 hx hZ hown (W hw 177) (W hw 3) (W hw 4) e4 (g := (mkF m 17 #[.val (.ref ob), .val (.ref xa), .val (.ref xa), .val (.ref xa), .val (.ref xa), .val (.int n), .val (.double (18442240474082181120 : UInt64)), .second] [])) rfl (hb hby d27_17) (by decide) (by decide)
  obtain ⟨b7, g7⟩ : ∃ z, z = h1.size := ⟨_, rfl⟩
  rw [← g7] at A7 D7 st7
  have Ca7 := CHr.ext E7 C1.1
  have z7 : h1.size ≤ h7.size := E7.1
  have C7 := C1.trans Ca7
  have lt7 : b7 < h7.size := A7.lt
  have F8 : Fld Z h7 b7 "com/example/ordr/ordr/model/BoxSizes" "widths" "[D" .null := D7 (Or.inr (W hw 159)) (ty := (.array .double)) (by decide)
  have F9 : Fld Z h7 b7 "com/example/ordr/ordr/model/BoxSizes" "heights" "[D" .null := D7 (Or.inr (W hw 162)) (ty := (.array .double)) (by decide)
  have F10 : Fld Z h7 b7 "com/example/ordr/ordr/model/BoxSizes" "labelWidths" "[D" .null := D7 (Or.inr (W hw 164)) (ty := (.array .double)) (by decide)
  have F11 : Fld Z h7 b7 "com/example/ordr/ordr/model/BoxSizes" "labelHeights" "[D" .null := D7 (Or.inr (W hw 166)) (ty := (.array .double)) (by decide)
  have F12 : Fld Z h7 b7 "com/example/ordr/ordr/model/BoxSizes" "labelOffsetXs" "[D" .null := D7 (Or.inr (W hw 168)) (ty := (.array .double)) (by decide)
  have F13 : Fld Z h7 b7 "com/example/ordr/ordr/model/BoxSizes" "labelOffsetYs" "[D" .null := D7 (Or.inr (W hw 170)) (ty := (.array .double)) (by decide)
  have K7 : Keep h0 h7 [] := K1.ext E7
  refine Comes.st st7 ?_
  show Comes p e below _ (T7.setTop (mkF m 20 #[.val (.ref ob), .val (.ref xa), .val (.ref xa), .val (.ref xa), .val (.ref xa), .val (.int n), .val (.double (18442240474082181120 : UInt64)), .second] [(.ref b7)]))
  refine Comes.st (fun t k => XS.dup X7.here hx rfl (hb hby d27_20) rfl rfl (XS.aloadN X7.here hx rfl (hb hby d27_21) rfl rfl (XS.aloadN X7.here hx rfl (hb hby d27_22) rfl rfl k))) ?_
  obtain ⟨b14, T14, h14, k14, v14, q14, X14, e14, E14, hS14, hk14, hZ, hown, A14, Fc14, Fv14, V14, lt14, lv14, Ca14, -, Sn14, st14⟩ := ldcCH (s := s) (vm0 := T1.vm) X7 hx hZ hown (W hw 25) (fun d hd => by simp only [Bundle.stringAtoms, List.mem_cons, List.not_mem_nil, or_false] at hd; rcases hd with rfl | rfl | rfl | rfl | rfl | rfl | rfl; exact hw _ (List.mem_of_getElem? (i := 12) rfl); exact hw _ (List.mem_of_getElem? (i := 13) rfl); exact hw _ (List.mem_of_getElem? (i := 14) rfl); exact hw _ (List.mem_of_getElem? (i := 15) rfl); exact hw _ (List.mem_of_getElem? (i := 16) rfl); exact hw _ (List.mem_of_getElem? (i := 17) rfl); exact hw _ (List.mem_of_getElem? (i := 18) rfl)) e7 hS1 (by omega) (own_EW hw) (List.mem_of_getElem? (i := 1) rfl) C7.1 (vs := (own_tx "widths")) (z := (6 : Int32)) ⟨by decide, rfl⟩ (by decide) (by decide) (g := (mkF m 23 #[.val (.ref ob), .val (.ref xa), .val (.ref xa), .val (.ref xa), .val (.ref xa), .val (.int n), .val (.double (18442240474082181120 : UInt64)), .second] [(.ref xa), (.ref ob), (.ref b7), (.ref b7)])) rfl (hb hby d27_23) (n := 24) (by decide) (by decide) (by decide) (by decide)
  have z14 : h7.size ≤ h14.size := E14.1
  have C14 := C7.trans Ca14
  have K14 : Keep h0 h14 [] := K7.ext E14
  refine Comes.st st14 ?_
  show Comes p e below _ (T14.setTop (mkF m 25 #[.val (.ref ob), .val (.ref xa), .val (.ref xa), .val (.ref xa), .val (.ref xa), .val (.int n), .val (.double (18442240474082181120 : UInt64)), .second] [(.ref b14), (.ref xa), (.ref ob), (.ref b7), (.ref b7)]))
  refine Comes.st (fun t k => XS.iload X14.here hx rfl (hb hby d27_25) rfl (own_dconst0 X14 hx rfl (hb hby d27_27) k)) ?_
  show Comes p e below _ (T14.setTop (mkF m 28 #[.val (.ref ob), .val (.ref xa), .val (.ref xa), .val (.ref xa), .val (.ref xa), .val (.int n), .val (.double (18442240474082181120 : UInt64)), .second] [(.double (0 : UInt64)), (.int n), (.ref b14), (.ref xa), (.ref ob), (.ref b7), (.ref b7)]))
  have F15 : Arv Z h14 xa ka .double n [] (.double (0 : UInt64)) := ((F5.ext E7).ext E14)
  have F16 : Exa Z h14 xa "[D" := ((F3.ext E7).ext E14)
  have Od17 : Old Z n0 h14 := (((G8.ext E1).ext E7).ext E14)
  obtain ⟨_, _, ⟨T18, L18, k18, n18⟩, -, X18, hSc18, hgr18, ⟨Lc18, hQ18, l18, y18, z18, Ca18⟩, st18⟩ := callSS X14 hx (y := (⟨"com/example/ordr/ordr/model/Layout", "checked", "([DLjava/lang/String;ID)[D"⟩ : MethodName)) hown (mvT hZ (W hw 26)) (mvT hZ (W hw 27)) (mvT hZ (W hw 28)) (mvT hZ (W hw 29)) (by decide) (backOfSH (W := 3) (ck6 l Z a0 hw [] xa b14 n ka v14 q14 ((own_tx "widths")) cs h14 n0 (by omega)  F15 F16 (by assumption) A14 Fv14 Fc14 V14 G6 (by assumption) Od17) hZ (W hw 29) (W hw 28) (by decide) (by decide) (own_EW hw) C14.1) (g := (mkF m 28 #[.val (.ref ob), .val (.ref xa), .val (.ref xa), .val (.ref xa), .val (.ref xa), .val (.int n), .val (.double (18442240474082181120 : UInt64)), .second] [(.double (0 : UInt64)), (.int n), (.ref b14), (.ref xa), (.ref ob), (.ref b7), (.ref b7)])) rfl (by rw [hml]; rfl) (argsL := [(.ref xa), (.ref b14), (.int n), (.double (0 : UInt64))]) (rest := [(.ref ob), (.ref b7), (.ref b7)]) (lenOf pd_21 rfl) rfl (by show 2 * 0 + _ ≤ _; exact Nat.le_of_eq rfl) (hb hby d27_28) (fun _ _ => ⟨rfl, e14, (by decide : 5 + 7 ≤ _), (by decide : 94 + 81 ≤ _)⟩)
  dsimp only [Pt.U, Pt.locs, Pt.cells, Pt.slots] at X18 hSc18 hgr18 l18 y18 z18 st18 hQ18 Ca18
  have hS18 : s.Since T18.vm T18.heap.size := foldS (T := T14) hS14 (by rw [e14]; omega) hSc18 hgr18
  have hZ : Z.Warmed39 (s.setVm T18.vm).vm := State.Warmed39.trans (t := s.setVm T14.vm) hZ hSc18.1
  have hown : (s.setVm T18.vm).vm.findClass "com/example/ordr/ordr/model/BoxSizes" = some m.cls := by rw [show (s.setVm T18.vm).vm = T18.vm from rfl, hSc18.1.alike.findClass]; exact hown
  have X18 := own_rebase X18
  subst l18 y18 z18
  obtain ⟨o19, r20, rfl, Nq18, Kq18, P18_0, P18_1, P18_2⟩ := hQ18
  have N18 := Fr.app N2 Nq18
  have z18k : h14.size ≤ T18.heap.size := Kq18.1
  have C18 := C14.trans Ca18
  have K18 : Keep h0 T18.heap [] := K14.trans Kq18 all0
  refine Comes.go st18 ?_
  have lt_21 : o19 < T18.heap.size := P18_0.lt
  show Comes p e below _ (T18.setTop (mkF m 31 #[.val (.ref ob), .val (.ref xa), .val (.ref xa), .val (.ref xa), .val (.ref xa), .val (.int n), .val (.double (18442240474082181120 : UInt64)), .second] [(.ref o19), (.ref ob), (.ref b7), (.ref b7)]))
  refine Comes.st (fun t k => XS.aloadN X18.here hx rfl (hb hby d27_31) rfl rfl k) ?_
  obtain ⟨b22, T22, h22, k22, v22, q22, X22, e22, E22, hS22, hk22, hZ, hown, A22, Fc22, Fv22, V22, lt22, lv22, Ca22, -, Sn22, st22⟩ := ldcCH (s := s) (vm0 := T18.vm) X18 hx hZ hown (W hw 160) (fun d hd => by simp only [Bundle.stringAtoms, List.mem_cons, List.not_mem_nil, or_false] at hd; rcases hd with rfl | rfl | rfl | rfl | rfl | rfl | rfl; exact hw _ (List.mem_of_getElem? (i := 12) rfl); exact hw _ (List.mem_of_getElem? (i := 13) rfl); exact hw _ (List.mem_of_getElem? (i := 14) rfl); exact hw _ (List.mem_of_getElem? (i := 15) rfl); exact hw _ (List.mem_of_getElem? (i := 16) rfl); exact hw _ (List.mem_of_getElem? (i := 17) rfl); exact hw _ (List.mem_of_getElem? (i := 18) rfl)) rfl hS18 (by omega) (own_EW hw) (List.mem_of_getElem? (i := 2) rfl) C18.1 (vs := (own_tx "heights")) (z := (7 : Int32)) ⟨by decide, rfl⟩ (by decide) (by decide) (g := (mkF m 32 #[.val (.ref ob), .val (.ref xa), .val (.ref xa), .val (.ref xa), .val (.ref xa), .val (.int n), .val (.double (18442240474082181120 : UInt64)), .second] [(.ref xa), (.ref o19), (.ref ob), (.ref b7), (.ref b7)])) rfl (hb hby d27_32) (n := 28) (by decide) (by decide) (by decide) (by decide)
  have z22 : T18.heap.size ≤ h22.size := E22.1
  have C22 := C18.trans Ca22
  have K22 : Keep h0 h22 [] := K18.ext E22
  refine Comes.st st22 ?_
  show Comes p e below _ (T22.setTop (mkF m 34 #[.val (.ref ob), .val (.ref xa), .val (.ref xa), .val (.ref xa), .val (.ref xa), .val (.int n), .val (.double (18442240474082181120 : UInt64)), .second] [(.ref b22), (.ref xa), (.ref o19), (.ref ob), (.ref b7), (.ref b7)]))
  refine Comes.st (fun t k => XS.iload X22.here hx rfl (hb hby d27_34) rfl (own_dconst0 X22 hx rfl (hb hby d27_36) k)) ?_
  show Comes p e below _ (T22.setTop (mkF m 37 #[.val (.ref ob), .val (.ref xa), .val (.ref xa), .val (.ref xa), .val (.ref xa), .val (.int n), .val (.double (18442240474082181120 : UInt64)), .second] [(.double (0 : UInt64)), (.int n), (.ref b22), (.ref xa), (.ref o19), (.ref ob), (.ref b7), (.ref b7)]))
  have F23 : Arv Z h22 xa ka .double n [] (.double (0 : UInt64)) := ((F15.keep Kq18 nin0).ext E22)
  have F24 : Exa Z h22 xa "[D" := ((F16.keep Kq18).ext E22)
  have Od25 : Old Z n0 h22 := ((Od17.keep Kq18 all0).ext E22)
  obtain ⟨_, _, ⟨T26, L26, k26, n26⟩, -, X26, hSc26, hgr26, ⟨Lc26, hQ26, l26, y26, z26, Ca26⟩, st26⟩ := callSS X22 hx (y := (⟨"com/example/ordr/ordr/model/Layout", "checked", "([DLjava/lang/String;ID)[D"⟩ : MethodName)) hown (mvT hZ (W hw 26)) (mvT hZ (W hw 27)) (mvT hZ (W hw 28)) (mvT hZ (W hw 29)) (by decide) (backOfSH (W := 4) (ck7 l Z a0 hw [] xa b22 n ka v22 q22 ((own_tx "heights")) cs h22 n0 (by omega)  F23 F24 (by assumption) A22 Fv22 Fc22 V22 G6 (by assumption) Od25) hZ (W hw 29) (W hw 28) (by decide) (by decide) (own_EW hw) C22.1) (g := (mkF m 37 #[.val (.ref ob), .val (.ref xa), .val (.ref xa), .val (.ref xa), .val (.ref xa), .val (.int n), .val (.double (18442240474082181120 : UInt64)), .second] [(.double (0 : UInt64)), (.int n), (.ref b22), (.ref xa), (.ref o19), (.ref ob), (.ref b7), (.ref b7)])) rfl (by rw [hml]; rfl) (argsL := [(.ref xa), (.ref b22), (.int n), (.double (0 : UInt64))]) (rest := [(.ref o19), (.ref ob), (.ref b7), (.ref b7)]) (lenOf pd_21 rfl) rfl (by show 2 * 0 + _ ≤ _; exact Nat.le_of_eq rfl) (hb hby d27_37) (fun _ _ => ⟨rfl, e22, (by decide : 14 + 7 ≤ _), (by decide : 207 + 82 ≤ _)⟩)
  dsimp only [Pt.U, Pt.locs, Pt.cells, Pt.slots] at X26 hSc26 hgr26 l26 y26 z26 st26 hQ26 Ca26
  have hS26 : s.Since T26.vm T26.heap.size := foldS (T := T22) hS22 (by rw [e22]; omega) hSc26 hgr26
  have hZ : Z.Warmed39 (s.setVm T26.vm).vm := State.Warmed39.trans (t := s.setVm T22.vm) hZ hSc26.1
  have hown : (s.setVm T26.vm).vm.findClass "com/example/ordr/ordr/model/BoxSizes" = some m.cls := by rw [show (s.setVm T26.vm).vm = T26.vm from rfl, hSc26.1.alike.findClass]; exact hown
  have X26 := own_rebase X26
  subst l26 y26 z26
  obtain ⟨o27, r28, rfl, Nq26, Kq26, P26_0, P26_1, P26_2⟩ := hQ26
  have N26 := Fr.app N18 Nq26
  have z26k : h22.size ≤ T26.heap.size := Kq26.1
  have C26 := C22.trans Ca26
  have K26 : Keep h0 T26.heap [] := K22.trans Kq26 all0
  refine Comes.go st26 ?_
  have lt_29 : o27 < T26.heap.size := P26_0.lt
  show Comes p e below _ (T26.setTop (mkF m 40 #[.val (.ref ob), .val (.ref xa), .val (.ref xa), .val (.ref xa), .val (.ref xa), .val (.int n), .val (.double (18442240474082181120 : UInt64)), .second] [(.ref o27), (.ref o19), (.ref ob), (.ref b7), (.ref b7)]))
  refine Comes.st (fun t k => XS.aloadN X26.here hx rfl (hb hby d27_40) rfl rfl k) ?_
  obtain ⟨b30, T30, h30, k30, v30, q30, X30, e30, E30, hS30, hk30, hZ, hown, A30, Fc30, Fv30, V30, lt30, lv30, Ca30, -, Sn30, st30⟩ := ldcCH (s := s) (vm0 := T26.vm) X26 hx hZ hown (W hw 186) (fun d hd => by simp only [Bundle.stringAtoms, List.mem_cons, List.not_mem_nil, or_false] at hd; rcases hd with rfl | rfl | rfl | rfl | rfl | rfl | rfl; exact hw _ (List.mem_of_getElem? (i := 12) rfl); exact hw _ (List.mem_of_getElem? (i := 13) rfl); exact hw _ (List.mem_of_getElem? (i := 14) rfl); exact hw _ (List.mem_of_getElem? (i := 15) rfl); exact hw _ (List.mem_of_getElem? (i := 16) rfl); exact hw _ (List.mem_of_getElem? (i := 17) rfl); exact hw _ (List.mem_of_getElem? (i := 18) rfl)) rfl hS26 (by omega) (own_EW hw) (List.mem_of_getElem? (i := 3) rfl) C26.1 (vs := (own_tx "offsetXs")) (z := (8 : Int32)) ⟨by decide, rfl⟩ (by decide) (by decide) (g := (mkF m 41 #[.val (.ref ob), .val (.ref xa), .val (.ref xa), .val (.ref xa), .val (.ref xa), .val (.int n), .val (.double (18442240474082181120 : UInt64)), .second] [(.ref xa), (.ref o27), (.ref o19), (.ref ob), (.ref b7), (.ref b7)])) rfl (hb hby d27_41) (n := 32) (by decide) (by decide) (by decide) (by decide)
  have z30 : T26.heap.size ≤ h30.size := E30.1
  have C30 := C26.trans Ca30
  have K30 : Keep h0 h30 [] := K26.ext E30
  refine Comes.st st30 ?_
  show Comes p e below _ (T30.setTop (mkF m 43 #[.val (.ref ob), .val (.ref xa), .val (.ref xa), .val (.ref xa), .val (.ref xa), .val (.int n), .val (.double (18442240474082181120 : UInt64)), .second] [(.ref b30), (.ref xa), (.ref o27), (.ref o19), (.ref ob), (.ref b7), (.ref b7)]))
  refine Comes.st (fun t k => XS.iload X30.here hx rfl (hb hby d27_43) rfl (XS.dload X30.here hx rfl (hb hby d27_45) rfl k)) ?_
  show Comes p e below _ (T30.setTop (mkF m 47 #[.val (.ref ob), .val (.ref xa), .val (.ref xa), .val (.ref xa), .val (.ref xa), .val (.int n), .val (.double (18442240474082181120 : UInt64)), .second] [(.double (18442240474082181120 : UInt64)), (.int n), (.ref b30), (.ref xa), (.ref o27), (.ref o19), (.ref ob), (.ref b7), (.ref b7)]))
  have F31 : Arv Z h30 xa ka .double n [] (.double (0 : UInt64)) := ((F23.keep Kq26 nin0).ext E30)
  have F32 : Exa Z h30 xa "[D" := ((F24.keep Kq26).ext E30)
  have Od33 : Old Z n0 h30 := ((Od25.keep Kq26 all0).ext E30)
  obtain ⟨_, _, ⟨T34, L34, k34, n34⟩, -, X34, hSc34, hgr34, ⟨Lc34, hQ34, l34, y34, z34, Ca34⟩, st34⟩ := callSS X30 hx (y := (⟨"com/example/ordr/ordr/model/Layout", "checked", "([DLjava/lang/String;ID)[D"⟩ : MethodName)) hown (mvT hZ (W hw 26)) (mvT hZ (W hw 27)) (mvT hZ (W hw 28)) (mvT hZ (W hw 29)) (by decide) (backOfSH (W := 5) (ck8 l Z a0 hw [] xa b30 n ka v30 q30 ((own_tx "offsetXs")) cs h30 n0 (by omega)  F31 F32 (by assumption) A30 Fv30 Fc30 V30 G6 (by assumption) Od33) hZ (W hw 29) (W hw 28) (by decide) (by decide) (own_EW hw) C30.1) (g := (mkF m 47 #[.val (.ref ob), .val (.ref xa), .val (.ref xa), .val (.ref xa), .val (.ref xa), .val (.int n), .val (.double (18442240474082181120 : UInt64)), .second] [(.double (18442240474082181120 : UInt64)), (.int n), (.ref b30), (.ref xa), (.ref o27), (.ref o19), (.ref ob), (.ref b7), (.ref b7)])) rfl (by rw [hml]; rfl) (argsL := [(.ref xa), (.ref b30), (.int n), (.double (18442240474082181120 : UInt64))]) (rest := [(.ref o27), (.ref o19), (.ref ob), (.ref b7), (.ref b7)]) (lenOf pd_21 rfl) rfl (by show 2 * 0 + _ ≤ _; exact Nat.le_of_eq rfl) (hb hby d27_47) (fun _ _ => ⟨rfl, e30, (by decide : 23 + 7 ≤ _), (by decide : 325 + 83 ≤ _)⟩)
  dsimp only [Pt.U, Pt.locs, Pt.cells, Pt.slots] at X34 hSc34 hgr34 l34 y34 z34 st34 hQ34 Ca34
  have hS34 : s.Since T34.vm T34.heap.size := foldS (T := T30) hS30 (by rw [e30]; omega) hSc34 hgr34
  have hZ : Z.Warmed39 (s.setVm T34.vm).vm := State.Warmed39.trans (t := s.setVm T30.vm) hZ hSc34.1
  have hown : (s.setVm T34.vm).vm.findClass "com/example/ordr/ordr/model/BoxSizes" = some m.cls := by rw [show (s.setVm T34.vm).vm = T34.vm from rfl, hSc34.1.alike.findClass]; exact hown
  have X34 := own_rebase X34
  subst l34 y34 z34
  obtain ⟨o35, r36, rfl, Nq34, Kq34, P34_0, P34_1, P34_2⟩ := hQ34
  have N34 := Fr.app N26 Nq34
  have z34k : h30.size ≤ T34.heap.size := Kq34.1
  have C34 := C30.trans Ca34
  have K34 : Keep h0 T34.heap [] := K30.trans Kq34 all0
  refine Comes.go st34 ?_
  have lt_37 : o35 < T34.heap.size := P34_0.lt
  show Comes p e below _ (T34.setTop (mkF m 50 #[.val (.ref ob), .val (.ref xa), .val (.ref xa), .val (.ref xa), .val (.ref xa), .val (.int n), .val (.double (18442240474082181120 : UInt64)), .second] [(.ref o35), (.ref o27), (.ref o19), (.ref ob), (.ref b7), (.ref b7)]))
  refine Comes.st (fun t k => XS.aload X34.here hx rfl (hb hby d27_50) rfl rfl k) ?_
  obtain ⟨b38, T38, h38, k38, v38, q38, X38, e38, E38, hS38, hk38, hZ, hown, A38, Fc38, Fv38, V38, lt38, lv38, Ca38, -, Sn38, st38⟩ := ldcCH (s := s) (vm0 := T34.vm) X34 hx hZ hown (W hw 193) (fun d hd => by simp only [Bundle.stringAtoms, List.mem_cons, List.not_mem_nil, or_false] at hd; rcases hd with rfl | rfl | rfl | rfl | rfl | rfl | rfl; exact hw _ (List.mem_of_getElem? (i := 12) rfl); exact hw _ (List.mem_of_getElem? (i := 13) rfl); exact hw _ (List.mem_of_getElem? (i := 14) rfl); exact hw _ (List.mem_of_getElem? (i := 15) rfl); exact hw _ (List.mem_of_getElem? (i := 16) rfl); exact hw _ (List.mem_of_getElem? (i := 17) rfl); exact hw _ (List.mem_of_getElem? (i := 18) rfl)) rfl hS34 (by omega) (own_EW hw) (List.mem_of_getElem? (i := 4) rfl) C34.1 (vs := (own_tx "offsetYs")) (z := (8 : Int32)) ⟨by decide, rfl⟩ (by decide) (by decide) (g := (mkF m 52 #[.val (.ref ob), .val (.ref xa), .val (.ref xa), .val (.ref xa), .val (.ref xa), .val (.int n), .val (.double (18442240474082181120 : UInt64)), .second] [(.ref xa), (.ref o35), (.ref o27), (.ref o19), (.ref ob), (.ref b7), (.ref b7)])) rfl (hb hby d27_52) (n := 32) (by decide) (by decide) (by decide) (by decide)
  have z38 : T34.heap.size ≤ h38.size := E38.1
  have C38 := C34.trans Ca38
  have K38 : Keep h0 h38 [] := K34.ext E38
  refine Comes.st st38 ?_
  show Comes p e below _ (T38.setTop (mkF m 54 #[.val (.ref ob), .val (.ref xa), .val (.ref xa), .val (.ref xa), .val (.ref xa), .val (.int n), .val (.double (18442240474082181120 : UInt64)), .second] [(.ref b38), (.ref xa), (.ref o35), (.ref o27), (.ref o19), (.ref ob), (.ref b7), (.ref b7)]))
  refine Comes.st (fun t k => XS.iload X38.here hx rfl (hb hby d27_54) rfl (XS.dload X38.here hx rfl (hb hby d27_56) rfl k)) ?_
  show Comes p e below _ (T38.setTop (mkF m 58 #[.val (.ref ob), .val (.ref xa), .val (.ref xa), .val (.ref xa), .val (.ref xa), .val (.int n), .val (.double (18442240474082181120 : UInt64)), .second] [(.double (18442240474082181120 : UInt64)), (.int n), (.ref b38), (.ref xa), (.ref o35), (.ref o27), (.ref o19), (.ref ob), (.ref b7), (.ref b7)]))
  have F39 : Arv Z h38 xa ka .double n [] (.double (0 : UInt64)) := ((F31.keep Kq34 nin0).ext E38)
  have F40 : Exa Z h38 xa "[D" := ((F32.keep Kq34).ext E38)
  have Od41 : Old Z n0 h38 := ((Od33.keep Kq34 all0).ext E38)
  obtain ⟨_, _, ⟨T42, L42, k42, n42⟩, -, X42, hSc42, hgr42, ⟨Lc42, hQ42, l42, y42, z42, Ca42⟩, st42⟩ := callSS X38 hx (y := (⟨"com/example/ordr/ordr/model/Layout", "checked", "([DLjava/lang/String;ID)[D"⟩ : MethodName)) hown (mvT hZ (W hw 26)) (mvT hZ (W hw 27)) (mvT hZ (W hw 28)) (mvT hZ (W hw 29)) (by decide) (backOfSH (W := 6) (ck8 l Z a0 hw [] xa b38 n ka v38 q38 ((own_tx "offsetYs")) cs h38 n0 (by omega)  F39 F40 (by assumption) A38 Fv38 Fc38 V38 G6 (by assumption) Od41) hZ (W hw 29) (W hw 28) (by decide) (by decide) (own_EW hw) C38.1) (g := (mkF m 58 #[.val (.ref ob), .val (.ref xa), .val (.ref xa), .val (.ref xa), .val (.ref xa), .val (.int n), .val (.double (18442240474082181120 : UInt64)), .second] [(.double (18442240474082181120 : UInt64)), (.int n), (.ref b38), (.ref xa), (.ref o35), (.ref o27), (.ref o19), (.ref ob), (.ref b7), (.ref b7)])) rfl (by rw [hml]; rfl) (argsL := [(.ref xa), (.ref b38), (.int n), (.double (18442240474082181120 : UInt64))]) (rest := [(.ref o35), (.ref o27), (.ref o19), (.ref ob), (.ref b7), (.ref b7)]) (lenOf pd_21 rfl) rfl (by show 2 * 0 + _ ≤ _; exact Nat.le_of_eq rfl) (hb hby d27_58) (fun _ _ => ⟨rfl, e38, (by decide : 32 + 7 ≤ _), (by decide : 444 + 83 ≤ _)⟩)
  dsimp only [Pt.U, Pt.locs, Pt.cells, Pt.slots] at X42 hSc42 hgr42 l42 y42 z42 st42 hQ42 Ca42
  have hS42 : s.Since T42.vm T42.heap.size := foldS (T := T38) hS38 (by rw [e38]; omega) hSc42 hgr42
  have hZ : Z.Warmed39 (s.setVm T42.vm).vm := State.Warmed39.trans (t := s.setVm T38.vm) hZ hSc42.1
  have hown : (s.setVm T42.vm).vm.findClass "com/example/ordr/ordr/model/BoxSizes" = some m.cls := by rw [show (s.setVm T42.vm).vm = T42.vm from rfl, hSc42.1.alike.findClass]; exact hown
  have X42 := own_rebase X42
  subst l42 y42 z42
  obtain ⟨o43, r44, rfl, Nq42, Kq42, P42_0, P42_1, P42_2⟩ := hQ42
  have N42 := Fr.app N34 Nq42
  have z42k : h38.size ≤ T42.heap.size := Kq42.1
  have C42 := C38.trans Ca42
  have K42 : Keep h0 T42.heap [] := K38.trans Kq42 all0
  refine Comes.go st42 ?_
  have lt_45 : o43 < T42.heap.size := P42_0.lt
  show Comes p e below _ (T42.setTop (mkF m 61 #[.val (.ref ob), .val (.ref xa), .val (.ref xa), .val (.ref xa), .val (.ref xa), .val (.int n), .val (.double (18442240474082181120 : UInt64)), .second] [(.ref o43), (.ref o35), (.ref o27), (.ref o19), (.ref ob), (.ref b7), (.ref b7)]))
  have F46 : Exa Z T42.heap b7 "com/example/ordr/ordr/model/BoxSizes" := ((((((((A7.ext E14).keep Kq18).ext E22).keep Kq26).ext E30).keep Kq34).ext E38).keep Kq42)
  have F47 : Fld Z T42.heap b7 "com/example/ordr/ordr/model/BoxSizes" "widths" "[D" .null := ((((((((F8.ext E14).keep Kq18 nin0).ext E22).keep Kq26 nin0).ext E30).keep Kq34 nin0).ext E38).keep Kq42 nin0)
  have F48 : Fld Z T42.heap b7 "com/example/ordr/ordr/model/BoxSizes" "heights" "[D" .null := ((((((((F9.ext E14).keep Kq18 nin0).ext E22).keep Kq26 nin0).ext E30).keep Kq34 nin0).ext E38).keep Kq42 nin0)
  have F49 : Fld Z T42.heap b7 "com/example/ordr/ordr/model/BoxSizes" "labelWidths" "[D" .null := ((((((((F10.ext E14).keep Kq18 nin0).ext E22).keep Kq26 nin0).ext E30).keep Kq34 nin0).ext E38).keep Kq42 nin0)
  have F50 : Fld Z T42.heap b7 "com/example/ordr/ordr/model/BoxSizes" "labelHeights" "[D" .null := ((((((((F11.ext E14).keep Kq18 nin0).ext E22).keep Kq26 nin0).ext E30).keep Kq34 nin0).ext E38).keep Kq42 nin0)
  have F51 : Fld Z T42.heap b7 "com/example/ordr/ordr/model/BoxSizes" "labelOffsetXs" "[D" .null := ((((((((F12.ext E14).keep Kq18 nin0).ext E22).keep Kq26 nin0).ext E30).keep Kq34 nin0).ext E38).keep Kq42 nin0)
  have F52 : Fld Z T42.heap b7 "com/example/ordr/ordr/model/BoxSizes" "labelOffsetYs" "[D" .null := ((((((((F13.ext E14).keep Kq18 nin0).ext E22).keep Kq26 nin0).ext E30).keep Kq34 nin0).ext E38).keep Kq42 nin0)
  have F53 : Fld Z T42.heap ob "com/example/ordr/ordr/model/BoxSizes" "widths" "[D" (.ref ra) := ((((((((((G1.ext E1).ext E7).ext E14).keep Kq18 nin0).ext E22).keep Kq26 nin0).ext E30).keep Kq34 nin0).ext E38).keep Kq42 nin0)
  have F54 : Fld Z T42.heap ob "com/example/ordr/ordr/model/BoxSizes" "heights" "[D" (.ref rb) := ((((((((((G2.ext E1).ext E7).ext E14).keep Kq18 nin0).ext E22).keep Kq26 nin0).ext E30).keep Kq34 nin0).ext E38).keep Kq42 nin0)
  have ne55 : ob ≠ b7 := by omega
  obtain ⟨_, _, ⟨T56, L56, k56, n56⟩, -, X56, ⟨Lc56, hQ56, l56, y56, z56⟩, st56⟩ := X42.specialBack hx (y := (⟨"com/example/ordr/ordr/model/BoxSizes", "<init>", "(Lcom/example/ordr/ordr/model/BoxSizes;[D[D[D[D)V"⟩ : MethodName)) rfl hown (mvT hZ (W hw 194)) (mvT hZ (W hw 195)) (mvT hZ (W hw 196)) (by decide) (backOf (W := 1) (rm30 l Z a0 hw [] b7 ob o19 o27 o35 o43 ra rb T42.heap n0 (by omega)  F46 F47 F48 F49 F50 F51 F52 F53 F54 (by omega) ne55) hZ (W hw 196) (W hw 4) (by decide) (by decide)) (g := (mkF m 61 #[.val (.ref ob), .val (.ref xa), .val (.ref xa), .val (.ref xa), .val (.ref xa), .val (.int n), .val (.double (18442240474082181120 : UInt64)), .second] [(.ref o43), (.ref o35), (.ref o27), (.ref o19), (.ref ob), (.ref b7), (.ref b7)])) rfl (by rw [hml]; rfl) (Steps.refl _) (a := b7) (argsL := [(.ref ob), (.ref o19), (.ref o27), (.ref o35), (.ref o43)]) (rest := [(.ref b7)]) (lenOf pd_22 rfl) rfl (by show 2 * 0 + _ ≤ _; exact Nat.le_of_eq rfl) (hb hby d27_61) (fun _ _ => ⟨rfl, rfl, (by decide : 39 + 0 ≤ _), (by decide : 527 + 0 ≤ _)⟩)
  dsimp only [Pt.U, Pt.locs, Pt.cells, Pt.slots] at X56 l56 y56 z56 st56 hQ56
  subst l56 y56 z56
  obtain ⟨rfl, Nq56, Kq56, P56_0, P56_1, P56_2, P56_3⟩ := hQ56
  have N56 := Fr.app N42 Nq56
  have Ca56k := CHr.keep Kq56 (allS (Safe.exa hZ.alike F46 (by decide) (by decide)) all0) C42.1
  have z56k : T42.heap.size ≤ T56.heap.size := Kq56.1
  have C56k := C42.trans Ca56k
  have gz57 : h0.size ≤ b7 := by omega
  have K56 : Keep h0 T56.heap [] := K42.trans Kq56 (allS (Or.inr gz57) all0)
  refine Comes.go st56 ?_
  have lt_58 : b7 < T56.heap.size := P56_0.lt
  show Comes p e below _ (T56.setTop (mkF m 64 #[.val (.ref ob), .val (.ref xa), .val (.ref xa), .val (.ref xa), .val (.ref xa), .val (.int n), .val (.double (18442240474082181120 : UInt64)), .second] [(.ref b7)]))
  have ne59 : o19 ≠ b7 := by omega
  have F60 : Arv Z T56.heap o19 r20 .double n [] (.double (0 : UInt64)) := (((((((P18_0.ext E22).keep Kq26 nin0).ext E30).keep Kq34 nin0).ext E38).keep Kq42 nin0).keep Kq56 (ninS ne59 nin0))
  have hkf : T42.heap.size ≤ T56.heap.size := by omega
  exact Comes.hretV X56 hx Bd.returns (narrow_ref rfl) (Or.inr (Or.inr (Or.inr (Or.inr ⟨rfl, rfl, rfl⟩)))) hlk (hb hby d27_64) hS42 hkf rfl ⟨b7, o19, r20, rfl, N56, K56, P56_0, P56_1, P56_2, P56_3, F60⟩ (by decide) (by decide) (by rw [hh]; exact C56k) hZ (own_EW hw)
def Q_lc0 (Z : State) (ob : Nat) (h0 : Heap) (n0 : Nat) (v_ : Option Value) (h : Heap) (L_ : List Loc) : Prop := (v_ = some (.int (0 : Int32))) ∧ (Fr n0 L_) ∧ (h = h0)
theorem lc0 (l : Launch) (Z : State) (a0 : Array Value) (hw : ∀ d ∈ tables_1, d.before a0 Z = true) (ws : List Jvm.Cond) (ob : Nat) (h0 : Heap) (n0 : Nat) (Z0 : n0 ≤ h0.size) (G0 : Exa Z h0 ob "com/example/ordr/ordr/model/BoxSizes") (G1 : Fld Z h0 ob "com/example/ordr/ordr/model/BoxSizes" "labelWidths" "[D" .null) :
    MetFree l (⟨"com/example/ordr/ordr/model/BoxSizes", "labelCount", "()I"⟩ : MethodName) (head1 (Jvm.Cond.code (⟨"com/example/ordr/ordr/model/BoxSizes", "labelCount", "()I"⟩ : MethodName) prog_74_method_5_code 1 (some .int) :: ws) (Rm 0 0 0 0)) (fun a_ U_ => a_ = #[(.ref ob)] ∧ Z.Warmed39 U_.vm ∧ U_.heap = h0) (fun _ _ _ _ _ => True) (fun _ U_ o_ V_ => ∃ v_ L_, o_ = .returned v_ ∧ Q_lc0 Z ob h0 n0 v_ V_.heap L_ ∧ FrameEnd U_ o_ V_ L_ (Rm 0 0 0 0).cells (Rm 0 0 0 0).slots) := by
  refine MetFree.of_bodySF (plainFor_of_name pn_31) hisR ?_
  intro p e s m args below meth c s₁ Bd hml0 hP hK
  obtain ⟨rfl, hZ, hh⟩ := hP
  have hx := Bd.exec
  have hby := Bd.bytes
  have hml : c.maxLocals = 1 := hml0
  have hown : s.vm.findClass "com/example/ordr/ordr/model/BoxSizes" = some m.cls := findClass_of_methodNamed Bd.named
  have hnm := (name_of_methodNamed Bd.named Bd.method).1
  have hlk : meth.locks = false := Bd.notSynchronized
  have X0 : Stand p l e (Rm 0 0 0 0) s m #[(.ref ob)] below meth c s₁ [] 0 0 := Stand.of_body Bd
  have e0 : s₁.heap = h0 := by rw [← hh, Bd.state]; rfl
  have N0 := Fr.nil n0
  refine Comes.out (Q := Q_lc0 Z ob h0 n0) (kc := (Rm 0 0 0 0).cells) (ks := (Rm 0 0 0 0).slots) ?_
  refine Comes.cast (ef_lc0 m ob) ?_
  have lt_ob : ob < h0.size := G0.lt
  show Comes p e below _ (s₁.setTop (mkF m 0 #[.val (.ref ob)] []))
  refine Comes.st (fun t k => XS.aloadN X0.here hx rfl (hb hby d31_0) rfl rfl k) ?_
  show Comes p e below _ (s₁.setTop (mkF m 1 #[.val (.ref ob)] [(.ref ob)]))
  obtain ⟨T1, X1, e1, st1⟩ := getF X0 hx hZ hown (host := "") (Or.inl (W hw 163)) Via.refl e0 G1 (g := (mkF m 1 #[.val (.ref ob)] [(.ref ob)])) rfl rfl (hb hby d31_1)
  refine Comes.st st1 ?_
  show Comes p e below _ (T1.setTop (mkF m 4 #[.val (.ref ob)] [.null]))
  refine Comes.st (fun t k => XS.ifnonnullNo X1.here hx rfl (hb hby d31_4) rfl (XS.iconst X1.here hx rfl (hb hby d31_7) (XS.goto X1.here hx rfl (pc0 := 8) (pc' := 16) rfl (hb hby d31_8) (by decide) (by decide) k))) ?_
  show Comes p e below _ (T1.setTop (mkF m 16 #[.val (.ref ob)] [(.int (0 : Int32))]))
  exact Comes.retV X1 hx Bd.returns rfl (Or.inl ⟨rfl, Or.inl rfl, _, rfl⟩) hlk (hb hby d31_16) e1 ⟨rfl, N0, rfl⟩ (by decide) (by decide)
def Q_lc1 (Z : State) (ob q : Nat) (kq : ClassId) (n : Int32) (h0 : Heap) (n0 : Nat) (v_ : Option Value) (h : Heap) (L_ : List Loc) : Prop := (v_ = some (.int n)) ∧ (Fr n0 L_) ∧ (h = h0)
theorem lc1 (l : Launch) (Z : State) (a0 : Array Value) (hw : ∀ d ∈ tables_1, d.before a0 Z = true) (ws : List Jvm.Cond) (ob q : Nat) (kq : ClassId) (n : Int32) (h0 : Heap) (n0 : Nat) (Z0 : n0 ≤ h0.size) (G0 : Exa Z h0 ob "com/example/ordr/ordr/model/BoxSizes") (G1 : Fld Z h0 ob "com/example/ordr/ordr/model/BoxSizes" "labelWidths" "[D" (.ref q)) (G2 : Arv Z h0 q kq .double n [] (.double (0 : UInt64))) :
    MetFree l (⟨"com/example/ordr/ordr/model/BoxSizes", "labelCount", "()I"⟩ : MethodName) (head1 (Jvm.Cond.code (⟨"com/example/ordr/ordr/model/BoxSizes", "labelCount", "()I"⟩ : MethodName) prog_74_method_5_code 1 (some .int) :: ws) (Rm 0 0 0 0)) (fun a_ U_ => a_ = #[(.ref ob)] ∧ Z.Warmed39 U_.vm ∧ U_.heap = h0) (fun _ _ _ _ _ => True) (fun _ U_ o_ V_ => ∃ v_ L_, o_ = .returned v_ ∧ Q_lc1 Z ob q kq n h0 n0 v_ V_.heap L_ ∧ FrameEnd U_ o_ V_ L_ (Rm 0 0 0 0).cells (Rm 0 0 0 0).slots) := by
  refine MetFree.of_bodySF (plainFor_of_name pn_31) hisR ?_
  intro p e s m args below meth c s₁ Bd hml0 hP hK
  obtain ⟨rfl, hZ, hh⟩ := hP
  have hx := Bd.exec
  have hby := Bd.bytes
  have hml : c.maxLocals = 1 := hml0
  have hown : s.vm.findClass "com/example/ordr/ordr/model/BoxSizes" = some m.cls := findClass_of_methodNamed Bd.named
  have hnm := (name_of_methodNamed Bd.named Bd.method).1
  have hlk : meth.locks = false := Bd.notSynchronized
  have X0 : Stand p l e (Rm 0 0 0 0) s m #[(.ref ob)] below meth c s₁ [] 0 0 := Stand.of_body Bd
  have e0 : s₁.heap = h0 := by rw [← hh, Bd.state]; rfl
  have N0 := Fr.nil n0
  refine Comes.out (Q := Q_lc1 Z ob q kq n h0 n0) (kc := (Rm 0 0 0 0).cells) (ks := (Rm 0 0 0 0).slots) ?_
  refine Comes.cast (ef_lc1 m ob) ?_
  have lt_ob : ob < h0.size := G0.lt
  have lt_q : q < h0.size := G2.lt
  show Comes p e below _ (s₁.setTop (mkF m 0 #[.val (.ref ob)] []))
  refine Comes.st (fun t k => XS.aloadN X0.here hx rfl (hb hby d31_0) rfl rfl k) ?_
  show Comes p e below _ (s₁.setTop (mkF m 1 #[.val (.ref ob)] [(.ref ob)]))
  obtain ⟨T1, X1, e1, st1⟩ := getF X0 hx hZ hown (host := "") (Or.inl (W hw 163)) Via.refl e0 G1 (g := (mkF m 1 #[.val (.ref ob)] [(.ref ob)])) rfl rfl (hb hby d31_1)
  refine Comes.st st1 ?_
  show Comes p e below _ (T1.setTop (mkF m 4 #[.val (.ref ob)] [(.ref q)]))
  refine Comes.st (fun t k => XS.ifnonnullYes X1.here hx rfl (pc0 := 4) (pc' := 11) rfl (hb hby d31_4) rfl (by decide) (by decide) (XS.aloadN X1.here hx rfl (hb hby d31_11) rfl rfl k)) ?_
  show Comes p e below _ (T1.setTop (mkF m 12 #[.val (.ref ob)] [(.ref ob)]))
  obtain ⟨T2, X2, e2, st2⟩ := getF X1 hx hZ hown (host := "") (Or.inl (W hw 163)) Via.refl e1 G1 (g := (mkF m 12 #[.val (.ref ob)] [(.ref ob)])) rfl rfl (hb hby d31_12)
  refine Comes.st st2 ?_
  show Comes p e below _ (T2.setTop (mkF m 15 #[.val (.ref ob)] [(.ref q)]))
  obtain ⟨cl3, Ar3, -, S3, Ng3, -, -⟩ := id G2
  refine Comes.st (fun t k => X2.arraylength hx (by rw [e2]; exact Ar3.1) (State.isArrayOf_alike hZ.alike Ar3.2.1) (g := (mkF m 15 #[.val (.ref ob)] [(.ref q)])) rfl rfl (hb hby d31_15) _ k) ?_
  rw [len_of S3 Ng3]
  show Comes p e below _ (T2.setTop (mkF m 16 #[.val (.ref ob)] [(.int n)]))
  exact Comes.retV X2 hx Bd.returns rfl (Or.inl ⟨rfl, Or.inl rfl, _, rfl⟩) hlk (hb hby d31_16) e2 ⟨rfl, N0, rfl⟩ (by decide) (by decide)
def Q_rm0 (Z : State) (nd fi se md cs : Int32) (h0 : Heap) (n0 : Nat) (v_ : Option Value) (h : Heap) (L_ : List Loc) : Prop := (v_ = some (.int (1 : Int32))) ∧ (Fr n0 L_)
theorem rm0 (l : Launch) (Z : State) (a0 : Array Value) (hw : ∀ d ∈ tables_1, d.before a0 Z = true) (ws : List Jvm.Cond) (nd fi se md cs : Int32) (h0 : Heap) (n0 : Nat) (Z0 : n0 ≤ h0.size) (G0 : Sta Z Z.heap "java/lang/String" "COMPACT_STRINGS" "Z" (.int cs)) (G1 : ¬ (cs = (0 : Int32))) (G2 : Old Z n0 h0) :
    MetFree l x (head1 (Jvm.Cond.code x code maxLocals ret :: ws) room_1) (fun a_ U_ => a_ = #[(.int nd), (.int fi), (.int se), (.int md)] ∧ Z.Warmed39 U_.vm ∧ U_.heap = h0 ∧ CHv Z consts_1 U_.vm h0) (fun _ _ _ _ _ => True) (fun _ U_ o_ V_ => ∃ v_ L_, o_ = .returned v_ ∧ Q_rm0 Z nd fi se md cs h0 n0 v_ V_.heap L_ ∧ ReturnedEndW U_ o_ V_ L_ room_1.cells room_1.slots) := by
  refine MetFree.of_bodySF (plainFor_of_name pn_0) hisR ?_
  intro p e s m args below meth c s₁ Bd hml0 hP hK
  obtain ⟨rfl, hZ, hh, hC0⟩ := hP
  have hx := Bd.exec
  have hby := Bd.bytes
  have hml : c.maxLocals = 14 := hml0
  have hown : s.vm.findClass "com/example/ordr/ordr/model/BoxSizesLabelCountPinLaw" = some m.cls := findClass_of_methodNamed Bd.named
  have hnm := (name_of_methodNamed Bd.named Bd.method).1
  have hlk : meth.locks = false := Bd.notSynchronized
  have X0 : Stand p l e room_1 s m #[(.int nd), (.int fi), (.int se), (.int md)] below meth c s₁ [] 0 0 := Stand.of_body Bd
  have e0 : s₁.heap = h0 := by rw [← hh, Bd.state]; rfl
  have N0 := Fr.nil n0
  have X0 := own_base X0
  have hZ : Z.Warmed39 (s.setVm s.vm).vm := hZ
  have C0 := CHr.refl hC0
  have hS0 : s.Since s.vm 0 := (State.WarmedH.refl s).since 0
  refine Comes.outW (Q := Q_rm0 Z nd fi se md cs h0 n0) (kc := room_1.cells) (ks := room_1.slots) ?_
  refine Comes.cast (ef_rm0 m nd fi se md) ?_
  show Comes p e below _ (s₁.setTop (mkF m 0 #[.val (.int nd), .val (.int fi), .val (.int se), .val (.int md), .unset, .unset, .unset, .unset, .unset, .unset, .unset, .unset, .unset, .unset] []))
  refine Comes.st (fun t k => XS.iloadN X0.here hx rfl (hb hby at_0) rfl (XS.bipush X0.here hx rfl (hb hby at_1) (XS.iand X0.here hx rfl (hb hby at_3) rfl k))) ?_
  show Comes p e below _ (s₁.setTop (mkF m 4 #[.val (.int nd), .val (.int fi), .val (.int se), .val (.int md), .unset, .unset, .unset, .unset, .unset, .unset, .unset, .unset, .unset, .unset] [(.int (nd &&& (7 : Int32)))]))
  generalize hv_v1 : (nd &&& (7 : Int32)) = v1
  show Comes p e below _ (s₁.setTop (mkF m 4 #[.val (.int nd), .val (.int fi), .val (.int se), .val (.int md), .unset, .unset, .unset, .unset, .unset, .unset, .unset, .unset, .unset, .unset] [(.int v1)]))
  refine Comes.st (fun t k => XS.istore X0.here hx rfl (hb hby at_4) rfl (l' := #[.val (.int nd), .val (.int fi), .val (.int se), .val (.int md), .val (.int v1), .unset, .unset, .unset, .unset, .unset, .unset, .unset, .unset, .unset]) rfl (XS.iloadN X0.here hx rfl (hb hby at_6) rfl (XS.bipush X0.here hx rfl (hb hby at_7) (XS.iand X0.here hx rfl (hb hby at_9) rfl k)))) ?_
  show Comes p e below _ (s₁.setTop (mkF m 10 #[.val (.int nd), .val (.int fi), .val (.int se), .val (.int md), .val (.int v1), .unset, .unset, .unset, .unset, .unset, .unset, .unset, .unset, .unset] [(.int (fi &&& (7 : Int32)))]))
  generalize hv_v2 : (fi &&& (7 : Int32)) = v2
  show Comes p e below _ (s₁.setTop (mkF m 10 #[.val (.int nd), .val (.int fi), .val (.int se), .val (.int md), .val (.int v1), .unset, .unset, .unset, .unset, .unset, .unset, .unset, .unset, .unset] [(.int v2)]))
  refine Comes.st (fun t k => XS.istore X0.here hx rfl (hb hby at_10) rfl (l' := #[.val (.int nd), .val (.int fi), .val (.int se), .val (.int md), .val (.int v1), .val (.int v2), .unset, .unset, .unset, .unset, .unset, .unset, .unset, .unset]) rfl (XS.iloadN X0.here hx rfl (hb hby at_12) rfl (XS.bipush X0.here hx rfl (hb hby at_13) (XS.iand X0.here hx rfl (hb hby at_15) rfl k)))) ?_
  show Comes p e below _ (s₁.setTop (mkF m 16 #[.val (.int nd), .val (.int fi), .val (.int se), .val (.int md), .val (.int v1), .val (.int v2), .unset, .unset, .unset, .unset, .unset, .unset, .unset, .unset] [(.int (se &&& (7 : Int32)))]))
  generalize hv_v3 : (se &&& (7 : Int32)) = v3
  show Comes p e below _ (s₁.setTop (mkF m 16 #[.val (.int nd), .val (.int fi), .val (.int se), .val (.int md), .val (.int v1), .val (.int v2), .unset, .unset, .unset, .unset, .unset, .unset, .unset, .unset] [(.int v3)]))
  refine Comes.st (fun t k => XS.istore X0.here hx rfl (hb hby at_16) rfl (l' := #[.val (.int nd), .val (.int fi), .val (.int se), .val (.int md), .val (.int v1), .val (.int v2), .val (.int v3), .unset, .unset, .unset, .unset, .unset, .unset, .unset]) rfl (XS.iloadN X0.here hx rfl (hb hby at_18) rfl (X0.ldcInt hx hown (mvT hZ (W hw 0)) (g := (mkF m 19 #[.val (.int nd), .val (.int fi), .val (.int se), .val (.int md), .val (.int v1), .val (.int v2), .val (.int v3), .unset, .unset, .unset, .unset, .unset, .unset, .unset] [(.int md)])) rfl (hb hby at_19) _ (XS.iand X0.here hx rfl (hb hby at_21) rfl (XS.iconst X0.here hx rfl (hb hby at_22) k))))) ?_
  show Comes p e below _ (s₁.setTop (mkF m 23 #[.val (.int nd), .val (.int fi), .val (.int se), .val (.int md), .val (.int v1), .val (.int v2), .val (.int v3), .unset, .unset, .unset, .unset, .unset, .unset, .unset] [(.int (3 : Int32)), (.int (md &&& (2147483647 : Int32)))]))
  have hnz4 : ¬ ((3 : Int32) = (0 : Int32)) := by decide
  refine Comes.st (fun t k => iremM X0 hx rfl (hb hby at_23) rfl hnz4 k) ?_
  show Comes p e below _ (s₁.setTop (mkF m 24 #[.val (.int nd), .val (.int fi), .val (.int se), .val (.int md), .val (.int v1), .val (.int v2), .val (.int v3), .unset, .unset, .unset, .unset, .unset, .unset, .unset] [(.int ((md &&& (2147483647 : Int32)) % (3 : Int32)))]))
  generalize hv_v5 : ((md &&& (2147483647 : Int32)) % (3 : Int32)) = v5
  show Comes p e below _ (s₁.setTop (mkF m 24 #[.val (.int nd), .val (.int fi), .val (.int se), .val (.int md), .val (.int v1), .val (.int v2), .val (.int v3), .unset, .unset, .unset, .unset, .unset, .unset, .unset] [(.int v5)]))
  refine Comes.st (fun t k => XS.istore X0.here hx rfl (hb hby at_24) rfl (l' := #[.val (.int nd), .val (.int fi), .val (.int se), .val (.int md), .val (.int v1), .val (.int v2), .val (.int v3), .val (.int v5), .unset, .unset, .unset, .unset, .unset, .unset]) rfl k) ?_
  have bd6 : 0 ≤ v1.toInt ∧ v1.toInt ≤ 7 := by have a_0 := c_mask nd (7 : Int32) 3 (by decide) (by decide); rw [hv_v1] at a_0; have a_1 := c_mask fi (7 : Int32) 3 (by decide) (by decide); rw [hv_v2] at a_1; have a_2 := c_mask se (7 : Int32) 3 (by decide) (by decide); rw [hv_v3] at a_2; have a_3 := c_mask md (2147483647 : Int32) 31 (by decide) (by decide); have a_4 := c_irem (md &&& (2147483647 : Int32)) (3 : Int32) 3 (by decide); rw [hv_v5] at a_4; have a_5 := rng32 (md &&& (2147483647 : Int32)); have a_6 := rng32 fi; have a_7 := rng32 md; have a_8 := rng32 nd; have a_9 := rng32 se; have a_10 := rng32 v1; have a_11 := rng32 v2; have a_12 := rng32 v3; have a_13 := rng32 v5; (try simp only [Int32.lt_iff_toInt_lt, Int64.lt_iff_toInt_lt, ← Int32.toInt_inj, ← Int64.toInt_inj, Int32.reduceToInt, Int64.reduceToInt, eq_self, and_true, true_and, or_true, true_or, and_false, false_and, or_false, false_or, not_true_eq_false, not_false_eq_true] at a_0 a_1 a_2 a_3 a_4 a_5 a_6 a_7 a_8 a_9 a_10 a_11 a_12 a_13 ⊢) <;> omega
  have bd7 : 0 ≤ v2.toInt ∧ v2.toInt ≤ 7 := by have a_0 := c_mask nd (7 : Int32) 3 (by decide) (by decide); rw [hv_v1] at a_0; have a_1 := c_mask fi (7 : Int32) 3 (by decide) (by decide); rw [hv_v2] at a_1; have a_2 := c_mask se (7 : Int32) 3 (by decide) (by decide); rw [hv_v3] at a_2; have a_3 := c_mask md (2147483647 : Int32) 31 (by decide) (by decide); have a_4 := c_irem (md &&& (2147483647 : Int32)) (3 : Int32) 3 (by decide); rw [hv_v5] at a_4; have a_5 := rng32 (md &&& (2147483647 : Int32)); have a_6 := rng32 fi; have a_7 := rng32 md; have a_8 := rng32 nd; have a_9 := rng32 se; have a_10 := rng32 v1; have a_11 := rng32 v2; have a_12 := rng32 v3; have a_13 := rng32 v5; (try simp only [Int32.lt_iff_toInt_lt, Int64.lt_iff_toInt_lt, ← Int32.toInt_inj, ← Int64.toInt_inj, Int32.reduceToInt, Int64.reduceToInt, eq_self, and_true, true_and, or_true, true_or, and_false, false_and, or_false, false_or, not_true_eq_false, not_false_eq_true] at a_0 a_1 a_2 a_3 a_4 a_5 a_6 a_7 a_8 a_9 a_10 a_11 a_12 a_13 ⊢) <;> omega
  have bd8 : 0 ≤ v3.toInt ∧ v3.toInt ≤ 7 := by have a_0 := c_mask nd (7 : Int32) 3 (by decide) (by decide); rw [hv_v1] at a_0; have a_1 := c_mask fi (7 : Int32) 3 (by decide) (by decide); rw [hv_v2] at a_1; have a_2 := c_mask se (7 : Int32) 3 (by decide) (by decide); rw [hv_v3] at a_2; have a_3 := c_mask md (2147483647 : Int32) 31 (by decide) (by decide); have a_4 := c_irem (md &&& (2147483647 : Int32)) (3 : Int32) 3 (by decide); rw [hv_v5] at a_4; have a_5 := rng32 (md &&& (2147483647 : Int32)); have a_6 := rng32 fi; have a_7 := rng32 md; have a_8 := rng32 nd; have a_9 := rng32 se; have a_10 := rng32 v1; have a_11 := rng32 v2; have a_12 := rng32 v3; have a_13 := rng32 v5; (try simp only [Int32.lt_iff_toInt_lt, Int64.lt_iff_toInt_lt, ← Int32.toInt_inj, ← Int64.toInt_inj, Int32.reduceToInt, Int64.reduceToInt, eq_self, and_true, true_and, or_true, true_or, and_false, false_and, or_false, false_or, not_true_eq_false, not_false_eq_true] at a_0 a_1 a_2 a_3 a_4 a_5 a_6 a_7 a_8 a_9 a_10 a_11 a_12 a_13 ⊢) <;> omega
  show Comes p e below _ (s₁.setTop (mkF m 26 #[.val (.int nd), .val (.int fi), .val (.int se), .val (.int md), .val (.int v1), .val (.int v2), .val (.int v3), .val (.int v5), .unset, .unset, .unset, .unset, .unset, .unset] []))
  refine Comes.st (fun t k => XS.iload X0.here hx rfl (hb hby at_26) rfl k) ?_
  show Comes p e below _ (s₁.setTop (mkF m 28 #[.val (.int nd), .val (.int fi), .val (.int se), .val (.int md), .val (.int v1), .val (.int v2), .val (.int v3), .val (.int v5), .unset, .unset, .unset, .unset, .unset, .unset] [(.int v1)]))
  obtain ⟨T9, h9, k9, X9, e9, E9, A9, Ex9, st9⟩ := newPE X0 hx hZ (W hw 1) e0 (g := (mkF m 28 #[.val (.int nd), .val (.int fi), .val (.int se), .val (.int md), .val (.int v1), .val (.int v2), .val (.int v3), .val (.int v5), .unset, .unset, .unset, .unset, .unset, .unset] [(.int v1)])) rfl (hb hby at_28) rfl (by exact own_nn (by assumption)) (cap := 7) (by exact own_n7 (by assumption)) (by decide) (by decide) (by decide) (ad := "[D") (by decide)
  obtain ⟨b9, g9⟩ : ∃ z, z = h0.size := ⟨_, rfl⟩
  rw [← g9] at A9 Ex9 st9
  have Ca9 := CHr.ext E9 C0.1
  have z9 : h0.size ≤ h9.size := E9.1
  have C9 := C0.trans Ca9
  have lt9 : b9 < h9.size := A9.lt
  have V9 : Arv Z h9 b9 k9 .double v1 [] (.double 0) := (Arv.new A9 (by exact own_nn (by assumption)))
  refine Comes.st st9 ?_
  show Comes p e below _ (T9.setTop (mkF m 30 #[.val (.int nd), .val (.int fi), .val (.int se), .val (.int md), .val (.int v1), .val (.int v2), .val (.int v3), .val (.int v5), .unset, .unset, .unset, .unset, .unset, .unset] [(.ref b9)]))
  refine Comes.st (fun t k => XS.astore X9.here hx rfl (hb hby at_30) rfl rfl (l' := #[.val (.int nd), .val (.int fi), .val (.int se), .val (.int md), .val (.int v1), .val (.int v2), .val (.int v3), .val (.int v5), .val (.ref b9), .unset, .unset, .unset, .unset, .unset]) rfl (XS.iload X9.here hx rfl (hb hby at_32) rfl k)) ?_
  show Comes p e below _ (T9.setTop (mkF m 34 #[.val (.int nd), .val (.int fi), .val (.int se), .val (.int md), .val (.int v1), .val (.int v2), .val (.int v3), .val (.int v5), .val (.ref b9), .unset, .unset, .unset, .unset, .unset] [(.int v2)]))
  obtain ⟨T10, h10, k10, X10, e10, E10, A10, Ex10, st10⟩ := newPE X9 hx hZ (W hw 1) e9 (g := (mkF m 34 #[.val (.int nd), .val (.int fi), .val (.int se), .val (.int md), .val (.int v1), .val (.int v2), .val (.int v3), .val (.int v5), .val (.ref b9), .unset, .unset, .unset, .unset, .unset] [(.int v2)])) rfl (hb hby at_34) rfl (by exact own_nn (by assumption)) (cap := 7) (by exact own_n7 (by assumption)) (by decide) (by decide) (by decide) (ad := "[D") (by decide)
  obtain ⟨b10, g10⟩ : ∃ z, z = h9.size := ⟨_, rfl⟩
  rw [← g10] at A10 Ex10 st10
  have Ca10 := CHr.ext E10 C9.1
  have z10 : h9.size ≤ h10.size := E10.1
  have C10 := C9.trans Ca10
  have lt10 : b10 < h10.size := A10.lt
  have V10 : Arv Z h10 b10 k10 .double v2 [] (.double 0) := (Arv.new A10 (by exact own_nn (by assumption)))
  refine Comes.st st10 ?_
  show Comes p e below _ (T10.setTop (mkF m 36 #[.val (.int nd), .val (.int fi), .val (.int se), .val (.int md), .val (.int v1), .val (.int v2), .val (.int v3), .val (.int v5), .val (.ref b9), .unset, .unset, .unset, .unset, .unset] [(.ref b10)]))
  refine Comes.st (fun t k => XS.astore X10.here hx rfl (hb hby at_36) rfl rfl (l' := #[.val (.int nd), .val (.int fi), .val (.int se), .val (.int md), .val (.int v1), .val (.int v2), .val (.int v3), .val (.int v5), .val (.ref b9), .val (.ref b10), .unset, .unset, .unset, .unset]) rfl (XS.iload X10.here hx rfl (hb hby at_38) rfl k)) ?_
  show Comes p e below _ (T10.setTop (mkF m 40 #[.val (.int nd), .val (.int fi), .val (.int se), .val (.int md), .val (.int v1), .val (.int v2), .val (.int v3), .val (.int v5), .val (.ref b9), .val (.ref b10), .unset, .unset, .unset, .unset] [(.int v3)]))
  obtain ⟨T11, h11, k11, X11, e11, E11, A11, Ex11, st11⟩ := newPE X10 hx hZ (W hw 1) e10 (g := (mkF m 40 #[.val (.int nd), .val (.int fi), .val (.int se), .val (.int md), .val (.int v1), .val (.int v2), .val (.int v3), .val (.int v5), .val (.ref b9), .val (.ref b10), .unset, .unset, .unset, .unset] [(.int v3)])) rfl (hb hby at_40) rfl (by exact own_nn (by assumption)) (cap := 7) (by exact own_n7 (by assumption)) (by decide) (by decide) (by decide) (ad := "[D") (by decide)
  obtain ⟨b11, g11⟩ : ∃ z, z = h10.size := ⟨_, rfl⟩
  rw [← g11] at A11 Ex11 st11
  have Ca11 := CHr.ext E11 C10.1
  have z11 : h10.size ≤ h11.size := E11.1
  have C11 := C10.trans Ca11
  have lt11 : b11 < h11.size := A11.lt
  have V11 : Arv Z h11 b11 k11 .double v3 [] (.double 0) := (Arv.new A11 (by exact own_nn (by assumption)))
  refine Comes.st st11 ?_
  show Comes p e below _ (T11.setTop (mkF m 42 #[.val (.int nd), .val (.int fi), .val (.int se), .val (.int md), .val (.int v1), .val (.int v2), .val (.int v3), .val (.int v5), .val (.ref b9), .val (.ref b10), .unset, .unset, .unset, .unset] [(.ref b11)]))
  refine Comes.st (fun t k => XS.astore X11.here hx rfl (hb hby at_42) rfl rfl (l' := #[.val (.int nd), .val (.int fi), .val (.int se), .val (.int md), .val (.int v1), .val (.int v2), .val (.int v3), .val (.int v5), .val (.ref b9), .val (.ref b10), .val (.ref b11), .unset, .unset, .unset]) rfl k) ?_
  show Comes p e below _ (T11.setTop (mkF m 44 #[.val (.int nd), .val (.int fi), .val (.int se), .val (.int md), .val (.int v1), .val (.int v2), .val (.int v3), .val (.int v5), .val (.ref b9), .val (.ref b10), .val (.ref b11), .unset, .unset, .unset] []))
  obtain ⟨T12, h12, X12, e12, E12, A12, D12, -, st12⟩ := newO X11 hx hZ hown (W hw 2) (W hw 3) (W hw 4) e11 (g := (mkF m 44 #[.val (.int nd), .val (.int fi), .val (.int se), .val (.int md), .val (.int v1), .val (.int v2), .val (.int v3), .val (.int v5), .val (.ref b9), .val (.ref b10), .val (.ref b11), .unset, .unset, .unset] [])) rfl (hb hby at_44) (by decide) (by decide)
  obtain ⟨b12, g12⟩ : ∃ z, z = h11.size := ⟨_, rfl⟩
  rw [← g12] at A12 D12 st12
  have Ca12 := CHr.ext E12 C11.1
  have z12 : h11.size ≤ h12.size := E12.1
  have C12 := C11.trans Ca12
  have lt12 : b12 < h12.size := A12.lt
  have F13 : Fld Z h12 b12 "com/example/ordr/ordr/model/BoxSizes" "widths" "[D" .null := D12 (Or.inr (W hw 159)) (ty := (.array .double)) (by decide)
  have F14 : Fld Z h12 b12 "com/example/ordr/ordr/model/BoxSizes" "heights" "[D" .null := D12 (Or.inr (W hw 162)) (ty := (.array .double)) (by decide)
  have F15 : Fld Z h12 b12 "com/example/ordr/ordr/model/BoxSizes" "labelWidths" "[D" .null := D12 (Or.inr (W hw 164)) (ty := (.array .double)) (by decide)
  have F16 : Fld Z h12 b12 "com/example/ordr/ordr/model/BoxSizes" "labelHeights" "[D" .null := D12 (Or.inr (W hw 166)) (ty := (.array .double)) (by decide)
  have F17 : Fld Z h12 b12 "com/example/ordr/ordr/model/BoxSizes" "labelOffsetXs" "[D" .null := D12 (Or.inr (W hw 168)) (ty := (.array .double)) (by decide)
  have F18 : Fld Z h12 b12 "com/example/ordr/ordr/model/BoxSizes" "labelOffsetYs" "[D" .null := D12 (Or.inr (W hw 170)) (ty := (.array .double)) (by decide)
  refine Comes.st st12 ?_
  show Comes p e below _ (T12.setTop (mkF m 47 #[.val (.int nd), .val (.int fi), .val (.int se), .val (.int md), .val (.int v1), .val (.int v2), .val (.int v3), .val (.int v5), .val (.ref b9), .val (.ref b10), .val (.ref b11), .unset, .unset, .unset] [(.ref b12)]))
  refine Comes.st (fun t k => XS.dup X12.here hx rfl (hb hby at_47) rfl rfl (XS.aload X12.here hx rfl (hb hby at_48) rfl rfl (XS.aload X12.here hx rfl (hb hby at_50) rfl rfl k))) ?_
  show Comes p e below _ (T12.setTop (mkF m 52 #[.val (.int nd), .val (.int fi), .val (.int se), .val (.int md), .val (.int v1), .val (.int v2), .val (.int v3), .val (.int v5), .val (.ref b9), .val (.ref b10), .val (.ref b11), .unset, .unset, .unset] [(.ref b9), (.ref b9), (.ref b12), (.ref b12)]))
  have F19 : Arv Z h12 b9 k9 .double v1 [] (.double 0) := (((V9.ext E10).ext E11).ext E12)
  have F20 : Exa Z h12 b9 "[D" := (((Ex9.ext E10).ext E11).ext E12)
  have Od21 : Old Z n0 h12 := ((((G2.ext E9).ext E10).ext E11).ext E12)
  have ne22 : b9 ≠ b12 := by omega
  obtain ⟨_, _, ⟨T23, L23, k23, n23⟩, -, X23, hSc23, hgr23, ⟨Lc23, hQ23, l23, y23, z23, Ca23⟩, st23⟩ := X12.specialBackS hx (y := (⟨"com/example/ordr/ordr/model/BoxSizes", "<init>", "([D[D)V"⟩ : MethodName)) rfl hown (mvT hZ (W hw 5)) (mvT hZ (W hw 6)) (mvT hZ (W hw 7)) (by decide) (backOfSH (W := 1) (rm1 l Z a0 hw [] b12 b9 k9 v1 cs h12 n0 (by omega)  A12 F13 F14 F15 F16 F17 F18 F19 F20 (by assumption) G0 (by assumption) Od21 (by omega) ne22) hZ (W hw 7) (W hw 4) (by decide) (by decide) (own_EW hw) C12.1) (g := (mkF m 52 #[.val (.int nd), .val (.int fi), .val (.int se), .val (.int md), .val (.int v1), .val (.int v2), .val (.int v3), .val (.int v5), .val (.ref b9), .val (.ref b10), .val (.ref b11), .unset, .unset, .unset] [(.ref b9), (.ref b9), (.ref b12), (.ref b12)])) rfl (by rw [hml]; rfl) (Steps.refl _) (a := b12) (argsL := [(.ref b9), (.ref b9)]) (rest := [(.ref b12)]) (lenOf pd_23 rfl) rfl (by show 2 * 0 + _ ≤ _; exact Nat.le_of_eq rfl) (hb hby at_52) (fun _ _ => ⟨rfl, e12, (by decide : 4 + 20 ≤ _), (by decide : 27 + 283 ≤ _)⟩)
  dsimp only [Pt.U, Pt.locs, Pt.cells, Pt.slots] at X23 hSc23 hgr23 l23 y23 z23 st23 hQ23 Ca23
  have hS23 : s.Since T23.vm T23.heap.size := foldS (T := T12) hS0 (by rw [e12]; omega) hSc23 hgr23
  have hZ : Z.Warmed39 (s.setVm T23.vm).vm := State.Warmed39.trans (t := s.setVm s.vm) hZ hSc23.1
  have hown : (s.setVm T23.vm).vm.findClass "com/example/ordr/ordr/model/BoxSizesLabelCountPinLaw" = some m.cls := by rw [show (s.setVm T23.vm).vm = T23.vm from rfl, hSc23.1.alike.findClass]; exact hown
  have X23 := own_rebase X23
  subst l23 y23 z23
  obtain ⟨o24, o25, rfl, Nq23, Kq23, P23_0, P23_1, P23_2, P23_3⟩ := hQ23
  have N23 := Fr.app N0 Nq23
  have z23k : h12.size ≤ T23.heap.size := Kq23.1
  have C23 := C12.trans Ca23
  refine Comes.go st23 ?_
  have lt_26 : b12 < T23.heap.size := P23_0.lt
  show Comes p e below _ (T23.setTop (mkF m 55 #[.val (.int nd), .val (.int fi), .val (.int se), .val (.int md), .val (.int v1), .val (.int v2), .val (.int v3), .val (.int v5), .val (.ref b9), .val (.ref b10), .val (.ref b11), .unset, .unset, .unset] [(.ref b12)]))
  refine Comes.st (fun t k => XS.astore X23.here hx rfl (hb hby at_55) rfl rfl (l' := #[.val (.int nd), .val (.int fi), .val (.int se), .val (.int md), .val (.int v1), .val (.int v2), .val (.int v3), .val (.int v5), .val (.ref b9), .val (.ref b10), .val (.ref b11), .val (.ref b12), .unset, .unset]) rfl (XS.aload X23.here hx rfl (hb hby at_57) rfl rfl (XS.astore X23.here hx rfl (hb hby at_59) rfl rfl (l' := #[.val (.int nd), .val (.int fi), .val (.int se), .val (.int md), .val (.int v1), .val (.int v2), .val (.int v3), .val (.int v5), .val (.ref b9), .val (.ref b10), .val (.ref b11), .val (.ref b12), .val (.ref b12), .unset]) rfl (XS.iconst X23.here hx rfl (hb hby at_61) (XS.istore X23.here hx rfl (hb hby at_62) rfl (l' := #[.val (.int nd), .val (.int fi), .val (.int se), .val (.int md), .val (.int v1), .val (.int v2), .val (.int v3), .val (.int v5), .val (.ref b9), .val (.ref b10), .val (.ref b11), .val (.ref b12), .val (.ref b12), .val (.int (0 : Int32))]) rfl (XS.iload X23.here hx rfl (hb hby at_64) rfl k)))))) ?_
  show Comes p e below _ (T23.setTop (mkF m 66 #[.val (.int nd), .val (.int fi), .val (.int se), .val (.int md), .val (.int v1), .val (.int v2), .val (.int v3), .val (.int v5), .val (.ref b9), .val (.ref b10), .val (.ref b11), .val (.ref b12), .val (.ref b12), .val (.int (0 : Int32))] [(.int v5)]))
  refine Comes.st (fun t k => XS.iconst X23.here hx rfl (hb hby at_66) k) ?_
  show Comes p e below _ (T23.setTop (mkF m 67 #[.val (.int nd), .val (.int fi), .val (.int se), .val (.int md), .val (.int v1), .val (.int v2), .val (.int v3), .val (.int v5), .val (.ref b9), .val (.ref b10), .val (.ref b11), .val (.ref b12), .val (.ref b12), .val (.int (0 : Int32))] [(.int (1 : Int32)), (.int v5)]))
  by_cases hc67_27 : v5 < (1 : Int32)
  · refine Comes.st (fun t k => XS.icmpYes X23.here hx rfl (pc0 := 67) (pc' := 89) rfl (hb hby at_67) rfl (tlt hc67_27).1 (by decide) (by decide) (XS.iload X23.here hx rfl (hb hby at_89) rfl (XS.iconst X23.here hx rfl (hb hby at_91) k))) ?_
    show Comes p e below _ (T23.setTop (mkF m 92 #[.val (.int nd), .val (.int fi), .val (.int se), .val (.int md), .val (.int v1), .val (.int v2), .val (.int v3), .val (.int v5), .val (.ref b9), .val (.ref b10), .val (.ref b11), .val (.ref b12), .val (.ref b12), .val (.int (0 : Int32))] [(.int (2 : Int32)), (.int v5)]))
    by_cases hc92_28 : v5 = (2 : Int32)
    · refine Comes.st (fun t k => XS.icmpNo X23.here hx rfl (hb hby at_92) rfl (teq hc92_28).2 (XS.aload X23.here hx rfl (hb hby at_95) rfl rfl (XS.aload X23.here hx rfl (hb hby at_97) rfl rfl (XS.aload X23.here hx rfl (hb hby at_99) rfl rfl (XS.aload X23.here hx rfl (hb hby at_101) rfl rfl (XS.aload X23.here hx rfl (hb hby at_103) rfl rfl k)))))) ?_
      show Comes p e below _ (T23.setTop (mkF m 105 #[.val (.int nd), .val (.int fi), .val (.int se), .val (.int md), .val (.int v1), .val (.int v2), .val (.int v3), .val (.int v5), .val (.ref b9), .val (.ref b10), .val (.ref b11), .val (.ref b12), .val (.ref b12), .val (.int (0 : Int32))] [(.ref b11), (.ref b11), (.ref b11), (.ref b11), (.ref b12)]))
      have ne29 : b11 ≠ b12 := by omega
      have F30 : Arv Z T23.heap b11 k11 .double v3 [] (.double 0) := ((V11.ext E12).keep Kq23 (ninS ne29 nin0))
      have F31 : Exa Z T23.heap b11 "[D" := ((Ex11.ext E12).keep Kq23)
      have Od32 : Old Z n0 T23.heap := (Od21.keep Kq23 (allS (by omega) all0))
      obtain ⟨cq33, kq33, q33a, q33b, q33c⟩ := isOf hZ rfl P23_0
      obtain ⟨_, _, ⟨T33, L33, k33, n33⟩, -, X33, hSc33, hgr33, ⟨Lc33, hQ33, l33, y33, z33, Ca33⟩, st33⟩ := X23.virtualBackS hx (y := (⟨"com/example/ordr/ordr/model/BoxSizes", "withLabels", "([D[D[D[D)Lcom/example/ordr/ordr/model/BoxSizes;"⟩ : MethodName)) (z := (⟨"com/example/ordr/ordr/model/BoxSizes", "withLabels", "([D[D[D[D)Lcom/example/ordr/ordr/model/BoxSizes;"⟩ : MethodName)) hown (mvT hZ (W hw 171)) (mvT hZ (W hw 172)) (notFace_of_selects (args := #[]) (mvT hZ (W hw 174))) (mvT hZ (W hw 174)) (mvT hZ (W hw 173)) (by decide) (backOfSH (W := 0) (rm27 l Z a0 hw [] b12 b11 k11 v3 o24 o25 cs T23.heap n0 (by omega)  P23_0 P23_1 P23_2 F30 F31 (by assumption) G0 (by assumption) Od32) hZ (W hw 175) (W hw 4) (by decide) (by decide) (own_EW hw) C23.1) q33a q33c (g := (mkF m 105 #[.val (.int nd), .val (.int fi), .val (.int se), .val (.int md), .val (.int v1), .val (.int v2), .val (.int v3), .val (.int v5), .val (.ref b9), .val (.ref b10), .val (.ref b11), .val (.ref b12), .val (.ref b12), .val (.int (0 : Int32))] [(.ref b11), (.ref b11), (.ref b11), (.ref b11), (.ref b12)])) rfl (by rw [hml]; rfl) (Steps.refl _) (argsL := [(.ref b11), (.ref b11), (.ref b11), (.ref b11)]) (rest := []) (lenOf pd_24 rfl) rfl (by show 2 * 0 + _ ≤ _; exact Nat.le_of_eq rfl) (hb hby at_105) (fun _ _ => ⟨rfl, rfl, (by decide : 24 + 39 ≤ _), (by decide : 310 + 527 ≤ _)⟩)
      dsimp only [Pt.U, Pt.locs, Pt.cells, Pt.slots] at X33 hSc33 hgr33 l33 y33 z33 st33 hQ33 Ca33
      have hS33 : s.Since T33.vm T33.heap.size := foldS (T := T23) hS23 (by omega) hSc33 hgr33
      have hZ : Z.Warmed39 (s.setVm T33.vm).vm := State.Warmed39.trans (t := s.setVm T23.vm) hZ hSc33.1
      have hown : (s.setVm T33.vm).vm.findClass "com/example/ordr/ordr/model/BoxSizesLabelCountPinLaw" = some m.cls := by rw [show (s.setVm T33.vm).vm = T33.vm from rfl, hSc33.1.alike.findClass]; exact hown
      have X33 := own_rebase X33
      subst l33 y33 z33
      obtain ⟨o34, o35, r36, rfl, Nq33, Kq33, P33_0, P33_1, P33_2, P33_3, P33_4⟩ := hQ33
      have N33 := Fr.app N23 Nq33
      have z33k : T23.heap.size ≤ T33.heap.size := Kq33.1
      have C33 := C23.trans Ca33
      refine Comes.go st33 ?_
      have lt_37 : o34 < T33.heap.size := P33_0.lt
      have lt_38 : o35 < T33.heap.size := P33_4.lt
      show Comes p e below _ (T33.setTop (mkF m 108 #[.val (.int nd), .val (.int fi), .val (.int se), .val (.int md), .val (.int v1), .val (.int v2), .val (.int v3), .val (.int v5), .val (.ref b9), .val (.ref b10), .val (.ref b11), .val (.ref b12), .val (.ref b12), .val (.int (0 : Int32))] [(.ref o34)]))
      refine Comes.st (fun t k => XS.astore X33.here hx rfl (hb hby at_108) rfl rfl (l' := #[.val (.int nd), .val (.int fi), .val (.int se), .val (.int md), .val (.int v1), .val (.int v2), .val (.int v3), .val (.int v5), .val (.ref b9), .val (.ref b10), .val (.ref b11), .val (.ref b12), .val (.ref o34), .val (.int (0 : Int32))]) rfl (XS.iload X33.here hx rfl (hb hby at_110) rfl (XS.istore X33.here hx rfl (hb hby at_112) rfl (l' := #[.val (.int nd), .val (.int fi), .val (.int se), .val (.int md), .val (.int v1), .val (.int v2), .val (.int v3), .val (.int v5), .val (.ref b9), .val (.ref b10), .val (.ref b11), .val (.ref b12), .val (.ref o34), .val (.int v3)]) rfl (XS.aload X33.here hx rfl (hb hby at_114) rfl rfl k)))) ?_
      show Comes p e below _ (T33.setTop (mkF m 116 #[.val (.int nd), .val (.int fi), .val (.int se), .val (.int md), .val (.int v1), .val (.int v2), .val (.int v3), .val (.int v5), .val (.ref b9), .val (.ref b10), .val (.ref b11), .val (.ref b12), .val (.ref o34), .val (.int v3)] [(.ref o34)]))
      obtain ⟨cq39, kq39, q39a, q39b, q39c⟩ := isOf hZ rfl P33_0
      obtain ⟨_, _, ⟨T39, L39, k39, n39⟩, -, X39, ⟨Lc39, hQ39, l39, y39, z39⟩, st39⟩ := X33.virtualBack hx (y := (⟨"com/example/ordr/ordr/model/BoxSizes", "labelCount", "()I"⟩ : MethodName)) (z := (⟨"com/example/ordr/ordr/model/BoxSizes", "labelCount", "()I"⟩ : MethodName)) hown (mvT hZ (W hw 197)) (mvT hZ (W hw 198)) (notFace_of_selects (args := #[]) (mvT hZ (W hw 200))) (mvT hZ (W hw 200)) (mvT hZ (W hw 199)) (by decide) (backOf (W := 0) (lc1 l Z a0 hw [] o34 o35 r36 v3 T33.heap n0 (by omega)  P33_0 P33_3 P33_4) hZ (W hw 201) (W hw 4) (by decide) (by decide)) q39a q39c (g := (mkF m 116 #[.val (.int nd), .val (.int fi), .val (.int se), .val (.int md), .val (.int v1), .val (.int v2), .val (.int v3), .val (.int v5), .val (.ref b9), .val (.ref b10), .val (.ref b11), .val (.ref b12), .val (.ref o34), .val (.int v3)] [(.ref o34)])) rfl (by rw [hml]; rfl) (Steps.refl _) (argsL := []) (rest := []) (lenOf pd_4 rfl) rfl (by show 2 * 0 + _ ≤ _; exact Nat.le_of_eq rfl) (hb hby at_116) (fun _ _ => ⟨rfl, rfl, (by decide : 63 + 0 ≤ _), (by decide : 837 + 0 ≤ _)⟩)
      dsimp only [Pt.U, Pt.locs, Pt.cells, Pt.slots] at X39 l39 y39 z39 st39 hQ39
      subst l39 y39 z39
      obtain ⟨rfl, Nq39, hs39⟩ := hQ39
      have N39 := Fr.app N33 Nq39
      refine Comes.go st39 ?_
      show Comes p e below _ (T39.setTop (mkF m 119 #[.val (.int nd), .val (.int fi), .val (.int se), .val (.int md), .val (.int v1), .val (.int v2), .val (.int v3), .val (.int v5), .val (.ref b9), .val (.ref b10), .val (.ref b11), .val (.ref b12), .val (.ref o34), .val (.int v3)] [(.int v3)]))
      refine Comes.st (fun t k => XS.iload X39.here hx rfl (hb hby at_119) rfl k) ?_
      show Comes p e below _ (T39.setTop (mkF m 121 #[.val (.int nd), .val (.int fi), .val (.int se), .val (.int md), .val (.int v1), .val (.int v2), .val (.int v3), .val (.int v5), .val (.ref b9), .val (.ref b10), .val (.ref b11), .val (.ref b12), .val (.ref o34), .val (.int v3)] [(.int v3), (.int v3)]))
      have hc121_40 : v3 = v3 := by rfl
      refine Comes.st (fun t k => XS.icmpNo X39.here hx rfl (hb hby at_121) rfl (teq hc121_40).2 (XS.aload X39.here hx rfl (hb hby at_124) rfl rfl k)) ?_
      show Comes p e below _ (T39.setTop (mkF m 126 #[.val (.int nd), .val (.int fi), .val (.int se), .val (.int md), .val (.int v1), .val (.int v2), .val (.int v3), .val (.int v5), .val (.ref b9), .val (.ref b10), .val (.ref b11), .val (.ref b12), .val (.ref o34), .val (.int v3)] [(.ref b12)]))
      have F41 : Exa Z T33.heap b12 "com/example/ordr/ordr/model/BoxSizes" := (P23_0.keep Kq33)
      have F42 : Fld Z T33.heap b12 "com/example/ordr/ordr/model/BoxSizes" "labelWidths" "[D" .null := (P23_3.keep Kq33 nin0)
      obtain ⟨cq43, kq43, q43a, q43b, q43c⟩ := isOf hZ hs39 F41
      obtain ⟨_, _, ⟨T43, L43, k43, n43⟩, -, X43, ⟨Lc43, hQ43, l43, y43, z43⟩, st43⟩ := X39.virtualBack hx (y := (⟨"com/example/ordr/ordr/model/BoxSizes", "labelCount", "()I"⟩ : MethodName)) (z := (⟨"com/example/ordr/ordr/model/BoxSizes", "labelCount", "()I"⟩ : MethodName)) hown (mvT hZ (W hw 197)) (mvT hZ (W hw 198)) (notFace_of_selects (args := #[]) (mvT hZ (W hw 200))) (mvT hZ (W hw 200)) (mvT hZ (W hw 199)) (by decide) (backOf (W := 0) (lc0 l Z a0 hw [] b12 T33.heap n0 (by omega)  F41 F42) hZ (W hw 201) (W hw 4) (by decide) (by decide)) q43a q43c (g := (mkF m 126 #[.val (.int nd), .val (.int fi), .val (.int se), .val (.int md), .val (.int v1), .val (.int v2), .val (.int v3), .val (.int v5), .val (.ref b9), .val (.ref b10), .val (.ref b11), .val (.ref b12), .val (.ref o34), .val (.int v3)] [(.ref b12)])) rfl (by rw [hml]; rfl) (Steps.refl _) (argsL := []) (rest := []) (lenOf pd_4 rfl) rfl (by show 2 * 0 + _ ≤ _; exact Nat.le_of_eq rfl) (hb hby at_126) (fun _ _ => ⟨rfl, hs39, (by decide : 63 + 0 ≤ _), (by decide : 837 + 0 ≤ _)⟩)
      dsimp only [Pt.U, Pt.locs, Pt.cells, Pt.slots] at X43 l43 y43 z43 st43 hQ43
      subst l43 y43 z43
      obtain ⟨rfl, Nq43, hs43⟩ := hQ43
      have N43 := Fr.app N39 Nq43
      refine Comes.go st43 ?_
      show Comes p e below _ (T43.setTop (mkF m 129 #[.val (.int nd), .val (.int fi), .val (.int se), .val (.int md), .val (.int v1), .val (.int v2), .val (.int v3), .val (.int v5), .val (.ref b9), .val (.ref b10), .val (.ref b11), .val (.ref b12), .val (.ref o34), .val (.int v3)] [(.int (0 : Int32))]))
      have hc129_44 : (0 : Int32) = (0 : Int32) := by decide
      refine Comes.st (fun t k => XS.ifNo X43.here hx rfl (hb hby at_129) rfl ((if0 _ _).trans (teq hc129_44).2) (XS.iconst X43.here hx rfl (hb hby at_132) (XS.goto X43.here hx rfl (pc0 := 133) (pc' := 137) rfl (hb hby at_133) (by decide) (by decide) k))) ?_
      show Comes p e below _ (T43.setTop (mkF m 137 #[.val (.int nd), .val (.int fi), .val (.int se), .val (.int md), .val (.int v1), .val (.int v2), .val (.int v3), .val (.int v5), .val (.ref b9), .val (.ref b10), .val (.ref b11), .val (.ref b12), .val (.ref o34), .val (.int v3)] [(.int (1 : Int32))]))
      have hkf : T33.heap.size ≤ T33.heap.size := by omega
      exact Comes.wretN X43 hx (t := .boolean) Bd.returns (by simp) hlk (hb hby at_137) hS33 hkf hs43 ⟨rfl, N43⟩ (by decide) (by decide)
    · refine Comes.st (fun t k => XS.icmpYes X23.here hx rfl (pc0 := 92) (pc' := 114) rfl (hb hby at_92) rfl (feq hc92_28).2 (by decide) (by decide) (XS.aload X23.here hx rfl (hb hby at_114) rfl rfl k)) ?_
      show Comes p e below _ (T23.setTop (mkF m 116 #[.val (.int nd), .val (.int fi), .val (.int se), .val (.int md), .val (.int v1), .val (.int v2), .val (.int v3), .val (.int v5), .val (.ref b9), .val (.ref b10), .val (.ref b11), .val (.ref b12), .val (.ref b12), .val (.int (0 : Int32))] [(.ref b12)]))
      obtain ⟨cq45, kq45, q45a, q45b, q45c⟩ := isOf hZ rfl P23_0
      obtain ⟨_, _, ⟨T45, L45, k45, n45⟩, -, X45, ⟨Lc45, hQ45, l45, y45, z45⟩, st45⟩ := X23.virtualBack hx (y := (⟨"com/example/ordr/ordr/model/BoxSizes", "labelCount", "()I"⟩ : MethodName)) (z := (⟨"com/example/ordr/ordr/model/BoxSizes", "labelCount", "()I"⟩ : MethodName)) hown (mvT hZ (W hw 197)) (mvT hZ (W hw 198)) (notFace_of_selects (args := #[]) (mvT hZ (W hw 200))) (mvT hZ (W hw 200)) (mvT hZ (W hw 199)) (by decide) (backOf (W := 0) (lc0 l Z a0 hw [] b12 T23.heap n0 (by omega)  P23_0 P23_3) hZ (W hw 201) (W hw 4) (by decide) (by decide)) q45a q45c (g := (mkF m 116 #[.val (.int nd), .val (.int fi), .val (.int se), .val (.int md), .val (.int v1), .val (.int v2), .val (.int v3), .val (.int v5), .val (.ref b9), .val (.ref b10), .val (.ref b11), .val (.ref b12), .val (.ref b12), .val (.int (0 : Int32))] [(.ref b12)])) rfl (by rw [hml]; rfl) (Steps.refl _) (argsL := []) (rest := []) (lenOf pd_4 rfl) rfl (by show 2 * 0 + _ ≤ _; exact Nat.le_of_eq rfl) (hb hby at_116) (fun _ _ => ⟨rfl, rfl, (by decide : 24 + 0 ≤ _), (by decide : 310 + 0 ≤ _)⟩)
      dsimp only [Pt.U, Pt.locs, Pt.cells, Pt.slots] at X45 l45 y45 z45 st45 hQ45
      subst l45 y45 z45
      obtain ⟨rfl, Nq45, hs45⟩ := hQ45
      have N45 := Fr.app N23 Nq45
      refine Comes.go st45 ?_
      show Comes p e below _ (T45.setTop (mkF m 119 #[.val (.int nd), .val (.int fi), .val (.int se), .val (.int md), .val (.int v1), .val (.int v2), .val (.int v3), .val (.int v5), .val (.ref b9), .val (.ref b10), .val (.ref b11), .val (.ref b12), .val (.ref b12), .val (.int (0 : Int32))] [(.int (0 : Int32))]))
      refine Comes.st (fun t k => XS.iload X45.here hx rfl (hb hby at_119) rfl k) ?_
      show Comes p e below _ (T45.setTop (mkF m 121 #[.val (.int nd), .val (.int fi), .val (.int se), .val (.int md), .val (.int v1), .val (.int v2), .val (.int v3), .val (.int v5), .val (.ref b9), .val (.ref b10), .val (.ref b11), .val (.ref b12), .val (.ref b12), .val (.int (0 : Int32))] [(.int (0 : Int32)), (.int (0 : Int32))]))
      have hc121_46 : (0 : Int32) = (0 : Int32) := by decide
      refine Comes.st (fun t k => XS.icmpNo X45.here hx rfl (hb hby at_121) rfl (teq hc121_46).2 (XS.aload X45.here hx rfl (hb hby at_124) rfl rfl k)) ?_
      show Comes p e below _ (T45.setTop (mkF m 126 #[.val (.int nd), .val (.int fi), .val (.int se), .val (.int md), .val (.int v1), .val (.int v2), .val (.int v3), .val (.int v5), .val (.ref b9), .val (.ref b10), .val (.ref b11), .val (.ref b12), .val (.ref b12), .val (.int (0 : Int32))] [(.ref b12)]))
      obtain ⟨cq47, kq47, q47a, q47b, q47c⟩ := isOf hZ hs45 P23_0
      obtain ⟨_, _, ⟨T47, L47, k47, n47⟩, -, X47, ⟨Lc47, hQ47, l47, y47, z47⟩, st47⟩ := X45.virtualBack hx (y := (⟨"com/example/ordr/ordr/model/BoxSizes", "labelCount", "()I"⟩ : MethodName)) (z := (⟨"com/example/ordr/ordr/model/BoxSizes", "labelCount", "()I"⟩ : MethodName)) hown (mvT hZ (W hw 197)) (mvT hZ (W hw 198)) (notFace_of_selects (args := #[]) (mvT hZ (W hw 200))) (mvT hZ (W hw 200)) (mvT hZ (W hw 199)) (by decide) (backOf (W := 0) (lc0 l Z a0 hw [] b12 T23.heap n0 (by omega)  P23_0 P23_3) hZ (W hw 201) (W hw 4) (by decide) (by decide)) q47a q47c (g := (mkF m 126 #[.val (.int nd), .val (.int fi), .val (.int se), .val (.int md), .val (.int v1), .val (.int v2), .val (.int v3), .val (.int v5), .val (.ref b9), .val (.ref b10), .val (.ref b11), .val (.ref b12), .val (.ref b12), .val (.int (0 : Int32))] [(.ref b12)])) rfl (by rw [hml]; rfl) (Steps.refl _) (argsL := []) (rest := []) (lenOf pd_4 rfl) rfl (by show 2 * 0 + _ ≤ _; exact Nat.le_of_eq rfl) (hb hby at_126) (fun _ _ => ⟨rfl, hs45, (by decide : 24 + 0 ≤ _), (by decide : 310 + 0 ≤ _)⟩)
      dsimp only [Pt.U, Pt.locs, Pt.cells, Pt.slots] at X47 l47 y47 z47 st47 hQ47
      subst l47 y47 z47
      obtain ⟨rfl, Nq47, hs47⟩ := hQ47
      have N47 := Fr.app N45 Nq47
      refine Comes.go st47 ?_
      show Comes p e below _ (T47.setTop (mkF m 129 #[.val (.int nd), .val (.int fi), .val (.int se), .val (.int md), .val (.int v1), .val (.int v2), .val (.int v3), .val (.int v5), .val (.ref b9), .val (.ref b10), .val (.ref b11), .val (.ref b12), .val (.ref b12), .val (.int (0 : Int32))] [(.int (0 : Int32))]))
      have hc129_48 : (0 : Int32) = (0 : Int32) := by decide
      refine Comes.st (fun t k => XS.ifNo X47.here hx rfl (hb hby at_129) rfl ((if0 _ _).trans (teq hc129_48).2) (XS.iconst X47.here hx rfl (hb hby at_132) (XS.goto X47.here hx rfl (pc0 := 133) (pc' := 137) rfl (hb hby at_133) (by decide) (by decide) k))) ?_
      show Comes p e below _ (T47.setTop (mkF m 137 #[.val (.int nd), .val (.int fi), .val (.int se), .val (.int md), .val (.int v1), .val (.int v2), .val (.int v3), .val (.int v5), .val (.ref b9), .val (.ref b10), .val (.ref b11), .val (.ref b12), .val (.ref b12), .val (.int (0 : Int32))] [(.int (1 : Int32))]))
      have hkf : T23.heap.size ≤ T23.heap.size := by omega
      exact Comes.wretN X47 hx (t := .boolean) Bd.returns (by simp) hlk (hb hby at_137) hS23 hkf hs47 ⟨rfl, N47⟩ (by decide) (by decide)
  · refine Comes.st (fun t k => XS.icmpNo X23.here hx rfl (hb hby at_67) rfl (flt hc67_27).1 (XS.aload X23.here hx rfl (hb hby at_70) rfl rfl (XS.aload X23.here hx rfl (hb hby at_72) rfl rfl (XS.aload X23.here hx rfl (hb hby at_74) rfl rfl (XS.aload X23.here hx rfl (hb hby at_76) rfl rfl (XS.aload X23.here hx rfl (hb hby at_78) rfl rfl k)))))) ?_
    show Comes p e below _ (T23.setTop (mkF m 80 #[.val (.int nd), .val (.int fi), .val (.int se), .val (.int md), .val (.int v1), .val (.int v2), .val (.int v3), .val (.int v5), .val (.ref b9), .val (.ref b10), .val (.ref b11), .val (.ref b12), .val (.ref b12), .val (.int (0 : Int32))] [(.ref b10), (.ref b10), (.ref b10), (.ref b10), (.ref b12)]))
    have ne49 : b10 ≠ b12 := by omega
    have F50 : Arv Z T23.heap b10 k10 .double v2 [] (.double 0) := (((V10.ext E11).ext E12).keep Kq23 (ninS ne49 nin0))
    have F51 : Exa Z T23.heap b10 "[D" := (((Ex10.ext E11).ext E12).keep Kq23)
    have Od52 : Old Z n0 T23.heap := (Od21.keep Kq23 (allS (by omega) all0))
    obtain ⟨cq53, kq53, q53a, q53b, q53c⟩ := isOf hZ rfl P23_0
    obtain ⟨_, _, ⟨T53, L53, k53, n53⟩, -, X53, hSc53, hgr53, ⟨Lc53, hQ53, l53, y53, z53, Ca53⟩, st53⟩ := X23.virtualBackS hx (y := (⟨"com/example/ordr/ordr/model/BoxSizes", "withLabels", "([D[D[D[D)Lcom/example/ordr/ordr/model/BoxSizes;"⟩ : MethodName)) (z := (⟨"com/example/ordr/ordr/model/BoxSizes", "withLabels", "([D[D[D[D)Lcom/example/ordr/ordr/model/BoxSizes;"⟩ : MethodName)) hown (mvT hZ (W hw 171)) (mvT hZ (W hw 172)) (notFace_of_selects (args := #[]) (mvT hZ (W hw 174))) (mvT hZ (W hw 174)) (mvT hZ (W hw 173)) (by decide) (backOfSH (W := 0) (rm27 l Z a0 hw [] b12 b10 k10 v2 o24 o25 cs T23.heap n0 (by omega)  P23_0 P23_1 P23_2 F50 F51 (by assumption) G0 (by assumption) Od52) hZ (W hw 175) (W hw 4) (by decide) (by decide) (own_EW hw) C23.1) q53a q53c (g := (mkF m 80 #[.val (.int nd), .val (.int fi), .val (.int se), .val (.int md), .val (.int v1), .val (.int v2), .val (.int v3), .val (.int v5), .val (.ref b9), .val (.ref b10), .val (.ref b11), .val (.ref b12), .val (.ref b12), .val (.int (0 : Int32))] [(.ref b10), (.ref b10), (.ref b10), (.ref b10), (.ref b12)])) rfl (by rw [hml]; rfl) (Steps.refl _) (argsL := [(.ref b10), (.ref b10), (.ref b10), (.ref b10)]) (rest := []) (lenOf pd_24 rfl) rfl (by show 2 * 0 + _ ≤ _; exact Nat.le_of_eq rfl) (hb hby at_80) (fun _ _ => ⟨rfl, rfl, (by decide : 24 + 39 ≤ _), (by decide : 310 + 527 ≤ _)⟩)
    dsimp only [Pt.U, Pt.locs, Pt.cells, Pt.slots] at X53 hSc53 hgr53 l53 y53 z53 st53 hQ53 Ca53
    have hS53 : s.Since T53.vm T53.heap.size := foldS (T := T23) hS23 (by omega) hSc53 hgr53
    have hZ : Z.Warmed39 (s.setVm T53.vm).vm := State.Warmed39.trans (t := s.setVm T23.vm) hZ hSc53.1
    have hown : (s.setVm T53.vm).vm.findClass "com/example/ordr/ordr/model/BoxSizesLabelCountPinLaw" = some m.cls := by rw [show (s.setVm T53.vm).vm = T53.vm from rfl, hSc53.1.alike.findClass]; exact hown
    have X53 := own_rebase X53
    subst l53 y53 z53
    obtain ⟨o54, o55, r56, rfl, Nq53, Kq53, P53_0, P53_1, P53_2, P53_3, P53_4⟩ := hQ53
    have N53 := Fr.app N23 Nq53
    have z53k : T23.heap.size ≤ T53.heap.size := Kq53.1
    have C53 := C23.trans Ca53
    refine Comes.go st53 ?_
    have lt_57 : o54 < T53.heap.size := P53_0.lt
    have lt_58 : o55 < T53.heap.size := P53_4.lt
    show Comes p e below _ (T53.setTop (mkF m 83 #[.val (.int nd), .val (.int fi), .val (.int se), .val (.int md), .val (.int v1), .val (.int v2), .val (.int v3), .val (.int v5), .val (.ref b9), .val (.ref b10), .val (.ref b11), .val (.ref b12), .val (.ref b12), .val (.int (0 : Int32))] [(.ref o54)]))
    refine Comes.st (fun t k => XS.astore X53.here hx rfl (hb hby at_83) rfl rfl (l' := #[.val (.int nd), .val (.int fi), .val (.int se), .val (.int md), .val (.int v1), .val (.int v2), .val (.int v3), .val (.int v5), .val (.ref b9), .val (.ref b10), .val (.ref b11), .val (.ref b12), .val (.ref o54), .val (.int (0 : Int32))]) rfl (XS.iload X53.here hx rfl (hb hby at_85) rfl (XS.istore X53.here hx rfl (hb hby at_87) rfl (l' := #[.val (.int nd), .val (.int fi), .val (.int se), .val (.int md), .val (.int v1), .val (.int v2), .val (.int v3), .val (.int v5), .val (.ref b9), .val (.ref b10), .val (.ref b11), .val (.ref b12), .val (.ref o54), .val (.int v2)]) rfl (XS.iload X53.here hx rfl (hb hby at_89) rfl (XS.iconst X53.here hx rfl (hb hby at_91) k))))) ?_
    show Comes p e below _ (T53.setTop (mkF m 92 #[.val (.int nd), .val (.int fi), .val (.int se), .val (.int md), .val (.int v1), .val (.int v2), .val (.int v3), .val (.int v5), .val (.ref b9), .val (.ref b10), .val (.ref b11), .val (.ref b12), .val (.ref o54), .val (.int v2)] [(.int (2 : Int32)), (.int v5)]))
    by_cases hc92_59 : v5 = (2 : Int32)
    · refine Comes.st (fun t k => XS.icmpNo X53.here hx rfl (hb hby at_92) rfl (teq hc92_59).2 (XS.aload X53.here hx rfl (hb hby at_95) rfl rfl (XS.aload X53.here hx rfl (hb hby at_97) rfl rfl (XS.aload X53.here hx rfl (hb hby at_99) rfl rfl (XS.aload X53.here hx rfl (hb hby at_101) rfl rfl (XS.aload X53.here hx rfl (hb hby at_103) rfl rfl k)))))) ?_
      show Comes p e below _ (T53.setTop (mkF m 105 #[.val (.int nd), .val (.int fi), .val (.int se), .val (.int md), .val (.int v1), .val (.int v2), .val (.int v3), .val (.int v5), .val (.ref b9), .val (.ref b10), .val (.ref b11), .val (.ref b12), .val (.ref o54), .val (.int v2)] [(.ref b11), (.ref b11), (.ref b11), (.ref b11), (.ref o54)]))
      have ne60 : b11 ≠ b12 := by omega
      have F61 : Arv Z T53.heap b11 k11 .double v3 [] (.double 0) := (((V11.ext E12).keep Kq23 (ninS ne60 nin0)).keep Kq53 nin0)
      have F62 : Exa Z T53.heap b11 "[D" := (((Ex11.ext E12).keep Kq23).keep Kq53)
      have Od63 : Old Z n0 T53.heap := (Od52.keep Kq53 all0)
      obtain ⟨cq64, kq64, q64a, q64b, q64c⟩ := isOf hZ rfl P53_0
      obtain ⟨_, _, ⟨T64, L64, k64, n64⟩, -, X64, hSc64, hgr64, ⟨Lc64, hQ64, l64, y64, z64, Ca64⟩, st64⟩ := X53.virtualBackS hx (y := (⟨"com/example/ordr/ordr/model/BoxSizes", "withLabels", "([D[D[D[D)Lcom/example/ordr/ordr/model/BoxSizes;"⟩ : MethodName)) (z := (⟨"com/example/ordr/ordr/model/BoxSizes", "withLabels", "([D[D[D[D)Lcom/example/ordr/ordr/model/BoxSizes;"⟩ : MethodName)) hown (mvT hZ (W hw 171)) (mvT hZ (W hw 172)) (notFace_of_selects (args := #[]) (mvT hZ (W hw 174))) (mvT hZ (W hw 174)) (mvT hZ (W hw 173)) (by decide) (backOfSH (W := 0) (rm27 l Z a0 hw [] o54 b11 k11 v3 o24 o25 cs T53.heap n0 (by omega)  P53_0 P53_1 P53_2 F61 F62 (by assumption) G0 (by assumption) Od63) hZ (W hw 175) (W hw 4) (by decide) (by decide) (own_EW hw) C53.1) q64a q64c (g := (mkF m 105 #[.val (.int nd), .val (.int fi), .val (.int se), .val (.int md), .val (.int v1), .val (.int v2), .val (.int v3), .val (.int v5), .val (.ref b9), .val (.ref b10), .val (.ref b11), .val (.ref b12), .val (.ref o54), .val (.int v2)] [(.ref b11), (.ref b11), (.ref b11), (.ref b11), (.ref o54)])) rfl (by rw [hml]; rfl) (Steps.refl _) (argsL := [(.ref b11), (.ref b11), (.ref b11), (.ref b11)]) (rest := []) (lenOf pd_24 rfl) rfl (by show 2 * 0 + _ ≤ _; exact Nat.le_of_eq rfl) (hb hby at_105) (fun _ _ => ⟨rfl, rfl, (by decide : 63 + 39 ≤ _), (by decide : 837 + 527 ≤ _)⟩)
      dsimp only [Pt.U, Pt.locs, Pt.cells, Pt.slots] at X64 hSc64 hgr64 l64 y64 z64 st64 hQ64 Ca64
      have hS64 : s.Since T64.vm T64.heap.size := foldS (T := T53) hS53 (by omega) hSc64 hgr64
      have hZ : Z.Warmed39 (s.setVm T64.vm).vm := State.Warmed39.trans (t := s.setVm T53.vm) hZ hSc64.1
      have hown : (s.setVm T64.vm).vm.findClass "com/example/ordr/ordr/model/BoxSizesLabelCountPinLaw" = some m.cls := by rw [show (s.setVm T64.vm).vm = T64.vm from rfl, hSc64.1.alike.findClass]; exact hown
      have X64 := own_rebase X64
      subst l64 y64 z64
      obtain ⟨o65, o66, r67, rfl, Nq64, Kq64, P64_0, P64_1, P64_2, P64_3, P64_4⟩ := hQ64
      have N64 := Fr.app N53 Nq64
      have z64k : T53.heap.size ≤ T64.heap.size := Kq64.1
      have C64 := C53.trans Ca64
      refine Comes.go st64 ?_
      have lt_68 : o65 < T64.heap.size := P64_0.lt
      have lt_69 : o66 < T64.heap.size := P64_4.lt
      show Comes p e below _ (T64.setTop (mkF m 108 #[.val (.int nd), .val (.int fi), .val (.int se), .val (.int md), .val (.int v1), .val (.int v2), .val (.int v3), .val (.int v5), .val (.ref b9), .val (.ref b10), .val (.ref b11), .val (.ref b12), .val (.ref o54), .val (.int v2)] [(.ref o65)]))
      refine Comes.st (fun t k => XS.astore X64.here hx rfl (hb hby at_108) rfl rfl (l' := #[.val (.int nd), .val (.int fi), .val (.int se), .val (.int md), .val (.int v1), .val (.int v2), .val (.int v3), .val (.int v5), .val (.ref b9), .val (.ref b10), .val (.ref b11), .val (.ref b12), .val (.ref o65), .val (.int v2)]) rfl (XS.iload X64.here hx rfl (hb hby at_110) rfl (XS.istore X64.here hx rfl (hb hby at_112) rfl (l' := #[.val (.int nd), .val (.int fi), .val (.int se), .val (.int md), .val (.int v1), .val (.int v2), .val (.int v3), .val (.int v5), .val (.ref b9), .val (.ref b10), .val (.ref b11), .val (.ref b12), .val (.ref o65), .val (.int v3)]) rfl (XS.aload X64.here hx rfl (hb hby at_114) rfl rfl k)))) ?_
      show Comes p e below _ (T64.setTop (mkF m 116 #[.val (.int nd), .val (.int fi), .val (.int se), .val (.int md), .val (.int v1), .val (.int v2), .val (.int v3), .val (.int v5), .val (.ref b9), .val (.ref b10), .val (.ref b11), .val (.ref b12), .val (.ref o65), .val (.int v3)] [(.ref o65)]))
      obtain ⟨cq70, kq70, q70a, q70b, q70c⟩ := isOf hZ rfl P64_0
      obtain ⟨_, _, ⟨T70, L70, k70, n70⟩, -, X70, ⟨Lc70, hQ70, l70, y70, z70⟩, st70⟩ := X64.virtualBack hx (y := (⟨"com/example/ordr/ordr/model/BoxSizes", "labelCount", "()I"⟩ : MethodName)) (z := (⟨"com/example/ordr/ordr/model/BoxSizes", "labelCount", "()I"⟩ : MethodName)) hown (mvT hZ (W hw 197)) (mvT hZ (W hw 198)) (notFace_of_selects (args := #[]) (mvT hZ (W hw 200))) (mvT hZ (W hw 200)) (mvT hZ (W hw 199)) (by decide) (backOf (W := 0) (lc1 l Z a0 hw [] o65 o66 r67 v3 T64.heap n0 (by omega)  P64_0 P64_3 P64_4) hZ (W hw 201) (W hw 4) (by decide) (by decide)) q70a q70c (g := (mkF m 116 #[.val (.int nd), .val (.int fi), .val (.int se), .val (.int md), .val (.int v1), .val (.int v2), .val (.int v3), .val (.int v5), .val (.ref b9), .val (.ref b10), .val (.ref b11), .val (.ref b12), .val (.ref o65), .val (.int v3)] [(.ref o65)])) rfl (by rw [hml]; rfl) (Steps.refl _) (argsL := []) (rest := []) (lenOf pd_4 rfl) rfl (by show 2 * 0 + _ ≤ _; exact Nat.le_of_eq rfl) (hb hby at_116) (fun _ _ => ⟨rfl, rfl, (by decide : 102 + 0 ≤ _), (by decide : 1364 + 0 ≤ _)⟩)
      dsimp only [Pt.U, Pt.locs, Pt.cells, Pt.slots] at X70 l70 y70 z70 st70 hQ70
      subst l70 y70 z70
      obtain ⟨rfl, Nq70, hs70⟩ := hQ70
      have N70 := Fr.app N64 Nq70
      refine Comes.go st70 ?_
      show Comes p e below _ (T70.setTop (mkF m 119 #[.val (.int nd), .val (.int fi), .val (.int se), .val (.int md), .val (.int v1), .val (.int v2), .val (.int v3), .val (.int v5), .val (.ref b9), .val (.ref b10), .val (.ref b11), .val (.ref b12), .val (.ref o65), .val (.int v3)] [(.int v3)]))
      refine Comes.st (fun t k => XS.iload X70.here hx rfl (hb hby at_119) rfl k) ?_
      show Comes p e below _ (T70.setTop (mkF m 121 #[.val (.int nd), .val (.int fi), .val (.int se), .val (.int md), .val (.int v1), .val (.int v2), .val (.int v3), .val (.int v5), .val (.ref b9), .val (.ref b10), .val (.ref b11), .val (.ref b12), .val (.ref o65), .val (.int v3)] [(.int v3), (.int v3)]))
      have hc121_71 : v3 = v3 := by rfl
      refine Comes.st (fun t k => XS.icmpNo X70.here hx rfl (hb hby at_121) rfl (teq hc121_71).2 (XS.aload X70.here hx rfl (hb hby at_124) rfl rfl k)) ?_
      show Comes p e below _ (T70.setTop (mkF m 126 #[.val (.int nd), .val (.int fi), .val (.int se), .val (.int md), .val (.int v1), .val (.int v2), .val (.int v3), .val (.int v5), .val (.ref b9), .val (.ref b10), .val (.ref b11), .val (.ref b12), .val (.ref o65), .val (.int v3)] [(.ref b12)]))
      have F72 : Exa Z T64.heap b12 "com/example/ordr/ordr/model/BoxSizes" := ((P23_0.keep Kq53).keep Kq64)
      have F73 : Fld Z T64.heap b12 "com/example/ordr/ordr/model/BoxSizes" "labelWidths" "[D" .null := ((P23_3.keep Kq53 nin0).keep Kq64 nin0)
      obtain ⟨cq74, kq74, q74a, q74b, q74c⟩ := isOf hZ hs70 F72
      obtain ⟨_, _, ⟨T74, L74, k74, n74⟩, -, X74, ⟨Lc74, hQ74, l74, y74, z74⟩, st74⟩ := X70.virtualBack hx (y := (⟨"com/example/ordr/ordr/model/BoxSizes", "labelCount", "()I"⟩ : MethodName)) (z := (⟨"com/example/ordr/ordr/model/BoxSizes", "labelCount", "()I"⟩ : MethodName)) hown (mvT hZ (W hw 197)) (mvT hZ (W hw 198)) (notFace_of_selects (args := #[]) (mvT hZ (W hw 200))) (mvT hZ (W hw 200)) (mvT hZ (W hw 199)) (by decide) (backOf (W := 0) (lc0 l Z a0 hw [] b12 T64.heap n0 (by omega)  F72 F73) hZ (W hw 201) (W hw 4) (by decide) (by decide)) q74a q74c (g := (mkF m 126 #[.val (.int nd), .val (.int fi), .val (.int se), .val (.int md), .val (.int v1), .val (.int v2), .val (.int v3), .val (.int v5), .val (.ref b9), .val (.ref b10), .val (.ref b11), .val (.ref b12), .val (.ref o65), .val (.int v3)] [(.ref b12)])) rfl (by rw [hml]; rfl) (Steps.refl _) (argsL := []) (rest := []) (lenOf pd_4 rfl) rfl (by show 2 * 0 + _ ≤ _; exact Nat.le_of_eq rfl) (hb hby at_126) (fun _ _ => ⟨rfl, hs70, (by decide : 102 + 0 ≤ _), (by decide : 1364 + 0 ≤ _)⟩)
      dsimp only [Pt.U, Pt.locs, Pt.cells, Pt.slots] at X74 l74 y74 z74 st74 hQ74
      subst l74 y74 z74
      obtain ⟨rfl, Nq74, hs74⟩ := hQ74
      have N74 := Fr.app N70 Nq74
      refine Comes.go st74 ?_
      show Comes p e below _ (T74.setTop (mkF m 129 #[.val (.int nd), .val (.int fi), .val (.int se), .val (.int md), .val (.int v1), .val (.int v2), .val (.int v3), .val (.int v5), .val (.ref b9), .val (.ref b10), .val (.ref b11), .val (.ref b12), .val (.ref o65), .val (.int v3)] [(.int (0 : Int32))]))
      have hc129_75 : (0 : Int32) = (0 : Int32) := by decide
      refine Comes.st (fun t k => XS.ifNo X74.here hx rfl (hb hby at_129) rfl ((if0 _ _).trans (teq hc129_75).2) (XS.iconst X74.here hx rfl (hb hby at_132) (XS.goto X74.here hx rfl (pc0 := 133) (pc' := 137) rfl (hb hby at_133) (by decide) (by decide) k))) ?_
      show Comes p e below _ (T74.setTop (mkF m 137 #[.val (.int nd), .val (.int fi), .val (.int se), .val (.int md), .val (.int v1), .val (.int v2), .val (.int v3), .val (.int v5), .val (.ref b9), .val (.ref b10), .val (.ref b11), .val (.ref b12), .val (.ref o65), .val (.int v3)] [(.int (1 : Int32))]))
      have hkf : T64.heap.size ≤ T64.heap.size := by omega
      exact Comes.wretN X74 hx (t := .boolean) Bd.returns (by simp) hlk (hb hby at_137) hS64 hkf hs74 ⟨rfl, N74⟩ (by decide) (by decide)
    · refine Comes.st (fun t k => XS.icmpYes X53.here hx rfl (pc0 := 92) (pc' := 114) rfl (hb hby at_92) rfl (feq hc92_59).2 (by decide) (by decide) (XS.aload X53.here hx rfl (hb hby at_114) rfl rfl k)) ?_
      show Comes p e below _ (T53.setTop (mkF m 116 #[.val (.int nd), .val (.int fi), .val (.int se), .val (.int md), .val (.int v1), .val (.int v2), .val (.int v3), .val (.int v5), .val (.ref b9), .val (.ref b10), .val (.ref b11), .val (.ref b12), .val (.ref o54), .val (.int v2)] [(.ref o54)]))
      obtain ⟨cq76, kq76, q76a, q76b, q76c⟩ := isOf hZ rfl P53_0
      obtain ⟨_, _, ⟨T76, L76, k76, n76⟩, -, X76, ⟨Lc76, hQ76, l76, y76, z76⟩, st76⟩ := X53.virtualBack hx (y := (⟨"com/example/ordr/ordr/model/BoxSizes", "labelCount", "()I"⟩ : MethodName)) (z := (⟨"com/example/ordr/ordr/model/BoxSizes", "labelCount", "()I"⟩ : MethodName)) hown (mvT hZ (W hw 197)) (mvT hZ (W hw 198)) (notFace_of_selects (args := #[]) (mvT hZ (W hw 200))) (mvT hZ (W hw 200)) (mvT hZ (W hw 199)) (by decide) (backOf (W := 0) (lc1 l Z a0 hw [] o54 o55 r56 v2 T53.heap n0 (by omega)  P53_0 P53_3 P53_4) hZ (W hw 201) (W hw 4) (by decide) (by decide)) q76a q76c (g := (mkF m 116 #[.val (.int nd), .val (.int fi), .val (.int se), .val (.int md), .val (.int v1), .val (.int v2), .val (.int v3), .val (.int v5), .val (.ref b9), .val (.ref b10), .val (.ref b11), .val (.ref b12), .val (.ref o54), .val (.int v2)] [(.ref o54)])) rfl (by rw [hml]; rfl) (Steps.refl _) (argsL := []) (rest := []) (lenOf pd_4 rfl) rfl (by show 2 * 0 + _ ≤ _; exact Nat.le_of_eq rfl) (hb hby at_116) (fun _ _ => ⟨rfl, rfl, (by decide : 63 + 0 ≤ _), (by decide : 837 + 0 ≤ _)⟩)
      dsimp only [Pt.U, Pt.locs, Pt.cells, Pt.slots] at X76 l76 y76 z76 st76 hQ76
      subst l76 y76 z76
      obtain ⟨rfl, Nq76, hs76⟩ := hQ76
      have N76 := Fr.app N53 Nq76
      refine Comes.go st76 ?_
      show Comes p e below _ (T76.setTop (mkF m 119 #[.val (.int nd), .val (.int fi), .val (.int se), .val (.int md), .val (.int v1), .val (.int v2), .val (.int v3), .val (.int v5), .val (.ref b9), .val (.ref b10), .val (.ref b11), .val (.ref b12), .val (.ref o54), .val (.int v2)] [(.int v2)]))
      refine Comes.st (fun t k => XS.iload X76.here hx rfl (hb hby at_119) rfl k) ?_
      show Comes p e below _ (T76.setTop (mkF m 121 #[.val (.int nd), .val (.int fi), .val (.int se), .val (.int md), .val (.int v1), .val (.int v2), .val (.int v3), .val (.int v5), .val (.ref b9), .val (.ref b10), .val (.ref b11), .val (.ref b12), .val (.ref o54), .val (.int v2)] [(.int v2), (.int v2)]))
      have hc121_77 : v2 = v2 := by rfl
      refine Comes.st (fun t k => XS.icmpNo X76.here hx rfl (hb hby at_121) rfl (teq hc121_77).2 (XS.aload X76.here hx rfl (hb hby at_124) rfl rfl k)) ?_
      show Comes p e below _ (T76.setTop (mkF m 126 #[.val (.int nd), .val (.int fi), .val (.int se), .val (.int md), .val (.int v1), .val (.int v2), .val (.int v3), .val (.int v5), .val (.ref b9), .val (.ref b10), .val (.ref b11), .val (.ref b12), .val (.ref o54), .val (.int v2)] [(.ref b12)]))
      have F78 : Exa Z T53.heap b12 "com/example/ordr/ordr/model/BoxSizes" := (P23_0.keep Kq53)
      have F79 : Fld Z T53.heap b12 "com/example/ordr/ordr/model/BoxSizes" "labelWidths" "[D" .null := (P23_3.keep Kq53 nin0)
      obtain ⟨cq80, kq80, q80a, q80b, q80c⟩ := isOf hZ hs76 F78
      obtain ⟨_, _, ⟨T80, L80, k80, n80⟩, -, X80, ⟨Lc80, hQ80, l80, y80, z80⟩, st80⟩ := X76.virtualBack hx (y := (⟨"com/example/ordr/ordr/model/BoxSizes", "labelCount", "()I"⟩ : MethodName)) (z := (⟨"com/example/ordr/ordr/model/BoxSizes", "labelCount", "()I"⟩ : MethodName)) hown (mvT hZ (W hw 197)) (mvT hZ (W hw 198)) (notFace_of_selects (args := #[]) (mvT hZ (W hw 200))) (mvT hZ (W hw 200)) (mvT hZ (W hw 199)) (by decide) (backOf (W := 0) (lc0 l Z a0 hw [] b12 T53.heap n0 (by omega)  F78 F79) hZ (W hw 201) (W hw 4) (by decide) (by decide)) q80a q80c (g := (mkF m 126 #[.val (.int nd), .val (.int fi), .val (.int se), .val (.int md), .val (.int v1), .val (.int v2), .val (.int v3), .val (.int v5), .val (.ref b9), .val (.ref b10), .val (.ref b11), .val (.ref b12), .val (.ref o54), .val (.int v2)] [(.ref b12)])) rfl (by rw [hml]; rfl) (Steps.refl _) (argsL := []) (rest := []) (lenOf pd_4 rfl) rfl (by show 2 * 0 + _ ≤ _; exact Nat.le_of_eq rfl) (hb hby at_126) (fun _ _ => ⟨rfl, hs76, (by decide : 63 + 0 ≤ _), (by decide : 837 + 0 ≤ _)⟩)
      dsimp only [Pt.U, Pt.locs, Pt.cells, Pt.slots] at X80 l80 y80 z80 st80 hQ80
      subst l80 y80 z80
      obtain ⟨rfl, Nq80, hs80⟩ := hQ80
      have N80 := Fr.app N76 Nq80
      refine Comes.go st80 ?_
      show Comes p e below _ (T80.setTop (mkF m 129 #[.val (.int nd), .val (.int fi), .val (.int se), .val (.int md), .val (.int v1), .val (.int v2), .val (.int v3), .val (.int v5), .val (.ref b9), .val (.ref b10), .val (.ref b11), .val (.ref b12), .val (.ref o54), .val (.int v2)] [(.int (0 : Int32))]))
      have hc129_81 : (0 : Int32) = (0 : Int32) := by decide
      refine Comes.st (fun t k => XS.ifNo X80.here hx rfl (hb hby at_129) rfl ((if0 _ _).trans (teq hc129_81).2) (XS.iconst X80.here hx rfl (hb hby at_132) (XS.goto X80.here hx rfl (pc0 := 133) (pc' := 137) rfl (hb hby at_133) (by decide) (by decide) k))) ?_
      show Comes p e below _ (T80.setTop (mkF m 137 #[.val (.int nd), .val (.int fi), .val (.int se), .val (.int md), .val (.int v1), .val (.int v2), .val (.int v3), .val (.int v5), .val (.ref b9), .val (.ref b10), .val (.ref b11), .val (.ref b12), .val (.ref o54), .val (.int v2)] [(.int (1 : Int32))]))
      have hkf : T53.heap.size ≤ T53.heap.size := by omega
      exact Comes.wretN X80 hx (t := .boolean) Bd.returns (by simp) hlk (hb hby at_137) hS53 hkf hs80 ⟨rfl, N80⟩ (by decide) (by decide)
theorem own_not0 {a0 : Array Value} {Z : State} {t : Term} {x : Int32} (h : t.eval a0 Z none [] Z = some (.int x)) (w : (Jvm.Cond.not (.eq t (.int 0))).before a0 Z = true) : ¬ (x = (0 : Int32)) := fun e => by
  subst e
  simp [Cond.before, Cond.holds, Cond.value, Term.eval, h] at w
theorem comes_1 {Post : Tables → Env → Array Value → State → Outcome → State → Prop} (hpost : ∀ tb e args s v u, (limb_1_1.after args s (.returned v) u = true ∧ limb_1_2.after args s (.returned v) u = true ∧ True) → ReturnedEndW s (.returned v) u (Jvm.fieldLocs frame_1_writes args s ++ Jvm.arrayLocs frame_1_arrays args s ++ Jvm.staticLocs frame_1_statics s) 136 7232 → Post tb e args s (.returned v) u) :
    ArmFor flags0 classFile x code maxLocals ret World_1 tables_1 room_1 Calls_1 rest_1 Pre_1 Post := by
  intro l hfl _ _ p e ha hc hk s m args below hf hA hF happ hP
  obtain ⟨hcalls, hrest, hpre⟩ := hP
  obtain ⟨-, -, -, hnamed, -, -, -, hat⟩ := (Spec.applies_iff hf).mp happ
  obtain ⟨hg, hn⟩ := and_e (Cond.before_iff.mp (show (Jvm.Cond.and given_1 narrow_1).before args s = true from hpre))
  obtain ⟨c0, d0⟩ := and_e hg
  obtain ⟨c1, d1⟩ := and_e d0
  obtain ⟨c2, d2⟩ := and_e d1
  obtain ⟨c3, d3⟩ := and_e d2
  obtain ⟨w0, w1, w2, w3, rfl⟩ : ∃ w0 w1 w2 w3 : Value, args = #[w0, w1, w2, w3] := by
    have hs : args.size = 4 := by simpa [Cond.value, given_1] using c0
    obtain ⟨L⟩ := args
    match L, hs with
    | [w0, w1, w2, w3], _ => exact ⟨w0, w1, w2, w3, rfl⟩
  have hw := fun d (hd : d ∈ tables_1) => atoms_spec (ws := Jvm.Cond.code x code maxLocals ret :: tables_1) hat d (List.mem_cons_of_mem _ hd)
  have hfit : Fit s := fun {y c} hc i hi => by
    obtain ⟨ha, rfl⟩ := Array.getElem?_eq_some_iff.mp hc
    have q := List.all_eq_true.mp ((Array.all_eq_true_iff_forall_mem.mp hF) _ (Array.getElem_mem ha)) i (List.mem_range.mpr hi)
    simpa [Array.getElem?_eq_getElem hi] using q
  obtain ⟨i0, ei0⟩ := is_v c1
  obtain rfl : w0 = (.int i0) := Option.some.inj ei0
  obtain ⟨i1, ei1⟩ := is_v c2
  obtain rfl : w1 = (.int i1) := Option.some.inj ei1
  obtain ⟨i2, ei2⟩ := is_v c3
  obtain rfl : w2 = (.int i2) := Option.some.inj ei2
  obtain ⟨i3, ei3⟩ := is_v d3
  obtain rfl : w3 = (.int i3) := Option.some.inj ei3
  obtain ⟨hsets, hown0⟩ := atoms_of _ (rest_1_c_eq ▸ (show rest_1_c.before _ s = true from hrest))
  obtain ⟨cs, ec⟩ := is_v (Cond.before_iff.mp (hsets _ (List.mem_of_getElem? (i := 1) rfl)))
  have hcs : ¬ (cs = (0 : Int32)) := own_not0 ec (hsets _ (List.mem_of_getElem? (i := 2) rfl))
  have hCH : CHv s consts_1 s.vm s.heap := CHv.start (own_EW hw) (fun p hp => hcalls.1 p hp) (show Jvm.Lit.compactW.before _ s = true from (hsets _ (List.mem_of_getElem? (i := 2) rfl))) (W hw 14) (W hw 13)
  obtain ⟨n, o, h1, h2, h3, _, L, rfl, ⟨rfl, N⟩, hq⟩ := rm0 l s _ hw tables_1 i0 i1 i2 i3 cs s.heap s.heap.size (Nat.le_refl _) (Sta.start ec (Or.inl (hsets _ (List.mem_of_getElem? (i := 0) rfl)))) hcs (Old.start s) p e ha hc hk s m _ below hf ((Spec.applies_iff_loose hf).mp happ).1 ⟨rfl, State.Warmed39.refl s, rfl, hCH⟩ trivial
  refine ⟨n, _, h1, h2, h3, hpost _ _ _ _ _ _ ⟨Cond.after_iff.mpr rfl, Cond.after_iff.mpr (eq_i res_at (Term.int_eval (1)) rfl), trivial⟩ ⟨hq.1, hq.2.1, hq.2.2.1, (hq.2.2.2.sift fun y hy => Or.inr (N y hy)).mono (by decide) (by decide)⟩⟩
theorem main_1_1 : Claimed_1_1 := comes_1 fun _ _ _ _ _ _ h hF => ⟨h.1, hF⟩
theorem main_1_2 : Claimed_1_2 := comes_1 fun _ _ _ _ _ _ h hF => ⟨h.2.1, hF⟩
end Jvm.Pilot.@@N@@
namespace Jvm.Pilot.@@N@@
open Jvm Jvm.ClassFile Sem Op Lib Jvm.Free Jvm.Stand Jvm.Pilot.@@N@@.Jvm.D
/-! MADE BY PROGRAM (witnessworld.py) out of the Statement's table words and the real class files: 29 classes; the members and pool entries that the words name. The judged class is class 1, her method 1. -/
namespace start1
open Jvm.ClassFile
def u (s : String) : CpInfo := .utf8 (stringToUtf16 s)
/-- a pool by its gaps: so many unusable entries, then the entry; so many at the end -/
def gap : Nat → List CpInfo → List CpInfo
  | 0, r => r
  | n + 1, r => .unusable :: gap n r
def poolList (es : List (Nat × CpInfo)) (last : Nat) : List CpInfo := es.foldr (fun e r => gap e.1 (e.2 :: r)) (gap last [])
def pool (es : List (Nat × CpInfo)) (last : Nat) : Array CpInfo := ⟨poolList es last⟩
def fileOf (pool : Array CpInfo) (this : Nat) (attrs : Array Attribute := #[]) (ms : Array MethodInfo := #[]) (fl : Nat := 33) (sup : Nat := 0) (ifs : Array Nat := #[]) (fds : Array FieldInfo := #[]) : ClassFile where
  minorVersion := 0
  majorVersion := 65
  constantPool := pool
  accessFlags := fl
  thisClass := this
  superClass := sup
  interfaces := ifs
  fields := fds
  methods := ms
  attributes := attrs
def plain (name : String) (sup : Option ClassId) : Class where
  name := name
  kind := .ordinary
  loader := none
  accessFlags := 33
  super := sup
  interfaces := #[]
  cf := none
  fields := #[]
  methods := #[]
  instanceTypes := #[]
  staticTypes := #[]
  resolved := #[]
  callSites := []
  init := .initialized
  statics := none
  mirror := none

def pool0 : Array CpInfo := pool [(5, u "<init>"), (0, u "()V"), (1, .class_ 10), (1, u "java/lang/Object"), (85, u "clone"), (0, u "()Ljava/lang/Object;")] 26

def k0c0 : Code := { maxStack := 0, maxLocals := 1, code := object_method_1_code, exceptionTable := #[], attributes := #[] }
def k0m0 : Method := { name := "<init>", desc := "()V", sig := { parameters := [], returnType := none }, accessFlags := 1, code := some k0c0 }
def k0m1 : Method := { name := "clone", desc := "()Ljava/lang/Object;", sig := { parameters := [], returnType := some (.object "java/lang/Object") }, accessFlags := 260, code := none }
/-- java/lang/Object -/
def k0 : Class := { plain "java/lang/Object" none with
  accessFlags := 33
  interfaces := #[]
  cf := some (fileOf pool0 8 #[] #[{ accessFlags := 1, nameIndex := 5, descriptorIndex := 6, attributes := #[] }, { accessFlags := 260, nameIndex := 96, descriptorIndex := 97, attributes := #[] }] 33 0 #[] #[])
  fields := #[]
  methods := #[k0m0, k0m1]
  instanceTypes := #[]
  staticTypes := #[]
  resolved := Array.replicate 124 none
  statics := none }

def pool1 : Array CpInfo := pool [(2, .class_ 4), (1, u "java/lang/Object"), (0, u "<init>"), (0, u "()V"), (0, .integer 2147483647), (0, .class_ 9), (0, u "com/example/ordr/ordr/model/BoxSizes"), (0, .methodref 8 11), (0, .nameAndType 5 12), (0, u "([D[D)V"), (0, .methodref 8 14), (0, .nameAndType 15 16), (0, u "withLabels"), (0, u "([D[D[D[D)Lcom/example/ordr/ordr/model/BoxSizes;"), (0, .methodref 8 18), (0, .nameAndType 19 20), (0, u "labelCount"), (0, u "()I"), (0, .class_ 22), (0, u "com/example/ordr/ordr/model/BoxSizesLabelCountPinLaw"), (2, u "law"), (0, u "(IIII)Z")] 5

def k1m0 : Method := { name := "<init>", desc := "()V", sig := { parameters := [], returnType := none }, accessFlags := 2, code := none }
def k1c1 : Code := { maxStack := 5, maxLocals := 14, code := code, exceptionTable := #[], attributes := #[] }
def k1m1 : Method := { name := "law", desc := "(IIII)Z", sig := { parameters := [.int, .int, .int, .int], returnType := some .boolean }, accessFlags := 9, code := some k1c1 }
/-- com/example/ordr/ordr/model/BoxSizesLabelCountPinLaw -/
def k1 : Class := { plain "com/example/ordr/ordr/model/BoxSizesLabelCountPinLaw" (some 0) with
  accessFlags := 49
  interfaces := #[]
  cf := some (fileOf pool1 21 #[] #[{ accessFlags := 2, nameIndex := 5, descriptorIndex := 6, attributes := #[] }, { accessFlags := 9, nameIndex := 25, descriptorIndex := 26, attributes := #[] }] 49 2 #[] #[])
  fields := #[]
  methods := #[k1m0, k1m1]
  instanceTypes := #[]
  staticTypes := #[]
  resolved := Array.replicate 32 none
  statics := none }

def pool2 : Array CpInfo := pool [(1, .methodref 2 3), (0, .class_ 4), (0, .nameAndType 5 6), (0, u "java/lang/Object"), (0, u "<init>"), (0, u "()V"), (0, .string 8), (0, u "widths is null"), (0, .methodref 10 11), (0, .class_ 12), (0, .nameAndType 13 14), (0, u "java/util/Objects"), (0, u "requireNonNull"), (0, u "(Ljava/lang/Object;Ljava/lang/String;)Ljava/lang/Object;"), (0, .class_ 16), (0, u "[D"), (0, .string 18), (0, u "widths"), (0, .methodref 20 21), (0, .class_ 22), (0, .nameAndType 23 24), (0, u "com/example/ordr/ordr/model/Layout"), (0, u "checked"), (0, u "([DLjava/lang/String;ID)[D"), (0, .fieldref 26 27), (0, .class_ 28), (0, .nameAndType 18 16), (0, u "com/example/ordr/ordr/model/BoxSizes"), (0, .string 30), (0, u "heights"), (0, .fieldref 26 32), (0, .nameAndType 30 16), (0, .fieldref 26 34), (0, .nameAndType 35 16), (0, u "labelWidths"), (0, .fieldref 26 37), (0, .nameAndType 38 16), (0, u "labelHeights"), (0, .fieldref 26 40), (0, .nameAndType 41 16), (0, u "labelOffsetXs"), (0, .fieldref 26 43), (0, .nameAndType 44 16), (0, u "labelOffsetYs"), (2, .double 18442240474082181120), (1, .string 50), (0, u "offsetXs"), (0, .string 52), (0, u "offsetYs"), (0, .methodref 26 54), (0, .nameAndType 5 55), (0, u "(Lcom/example/ordr/ordr/model/BoxSizes;[D[D[D[D)V"), (6, u "labelCount"), (0, u "()I"), (0, u "([D[D)V"), (2, u "withLabels"), (0, u "([D[D[D[D)Lcom/example/ordr/ordr/model/BoxSizes;")] 11

def k2c0 : Code := { maxStack := 6, maxLocals := 4, code := prog_74_method_1_code, exceptionTable := #[], attributes := #[] }
def k2m0 : Method := { name := "<init>", desc := "([D[D)V", sig := { parameters := [(.array .double), (.array .double)], returnType := none }, accessFlags := 1, code := some k2c0 }
def k2c1 : Code := { maxStack := 2, maxLocals := 6, code := prog_74_method_2_code, exceptionTable := #[], attributes := #[] }
def k2m1 : Method := { name := "<init>", desc := "(Lcom/example/ordr/ordr/model/BoxSizes;[D[D[D[D)V", sig := { parameters := [(.object "com/example/ordr/ordr/model/BoxSizes"), (.array .double), (.array .double), (.array .double), (.array .double)], returnType := none }, accessFlags := 2, code := some k2c1 }
def k2c2 : Code := { maxStack := 11, maxLocals := 8, code := prog_74_method_3_code, exceptionTable := #[], attributes := #[] }
def k2m2 : Method := { name := "withLabels", desc := "([D[D[D[D)Lcom/example/ordr/ordr/model/BoxSizes;", sig := { parameters := [(.array .double), (.array .double), (.array .double), (.array .double)], returnType := some (.object "com/example/ordr/ordr/model/BoxSizes") }, accessFlags := 1, code := some k2c2 }
def k2c3 : Code := { maxStack := 1, maxLocals := 1, code := prog_74_method_5_code, exceptionTable := #[], attributes := #[] }
def k2m3 : Method := { name := "labelCount", desc := "()I", sig := { parameters := [], returnType := some .int }, accessFlags := 1, code := some k2c3 }
/-- com/example/ordr/ordr/model/BoxSizes -/
def k2 : Class := { plain "com/example/ordr/ordr/model/BoxSizes" (some 0) with
  accessFlags := 49
  interfaces := #[]
  cf := some (fileOf pool2 26 #[] #[{ accessFlags := 1, nameIndex := 5, descriptorIndex := 64, attributes := #[] }, { accessFlags := 2, nameIndex := 5, descriptorIndex := 55, attributes := #[] }, { accessFlags := 1, nameIndex := 67, descriptorIndex := 68, attributes := #[] }, { accessFlags := 1, nameIndex := 62, descriptorIndex := 63, attributes := #[] }] 49 2 #[] #[{ accessFlags := 18, nameIndex := 18, descriptorIndex := 16, attributes := #[] }, { accessFlags := 18, nameIndex := 30, descriptorIndex := 16, attributes := #[] }, { accessFlags := 18, nameIndex := 35, descriptorIndex := 16, attributes := #[] }, { accessFlags := 18, nameIndex := 38, descriptorIndex := 16, attributes := #[] }, { accessFlags := 18, nameIndex := 41, descriptorIndex := 16, attributes := #[] }, { accessFlags := 18, nameIndex := 44, descriptorIndex := 16, attributes := #[] }])
  fields := #[{ name := "widths", type := (.array .double), accessFlags := 18, slot := 0, constantValue := 0 }, { name := "heights", type := (.array .double), accessFlags := 18, slot := 1, constantValue := 0 }, { name := "labelWidths", type := (.array .double), accessFlags := 18, slot := 2, constantValue := 0 }, { name := "labelHeights", type := (.array .double), accessFlags := 18, slot := 3, constantValue := 0 }, { name := "labelOffsetXs", type := (.array .double), accessFlags := 18, slot := 4, constantValue := 0 }, { name := "labelOffsetYs", type := (.array .double), accessFlags := 18, slot := 5, constantValue := 0 }]
  methods := #[k2m0, k2m1, k2m2, k2m3]
  instanceTypes := #[(.array .double), (.array .double), (.array .double), (.array .double), (.array .double), (.array .double)]
  staticTypes := #[]
  resolved := Array.replicate 80 none
  statics := none }

def pool3 : Array CpInfo := pool [(1, .class_ 2), (0, u "java/io/Serializable"), (0, .class_ 4), (0, u "java/lang/Object")] 2

/-- java/io/Serializable -/
def k3 : Class := { plain "java/io/Serializable" (some 0) with
  accessFlags := 1537
  interfaces := #[]
  cf := some (fileOf pool3 1 #[] #[] 1537 3 #[] #[])
  fields := #[]
  methods := #[]
  instanceTypes := #[]
  staticTypes := #[]
  resolved := Array.replicate 7 none
  statics := none }

def pool4 : Array CpInfo := pool [(1, .class_ 2), (0, u "java/lang/Comparable"), (0, .class_ 4), (0, u "java/lang/Object")] 7

/-- java/lang/Comparable -/
def k4 : Class := { plain "java/lang/Comparable" (some 0) with
  accessFlags := 1537
  interfaces := #[]
  cf := some (fileOf pool4 1 #[] #[] 1537 3 #[] #[])
  fields := #[]
  methods := #[]
  instanceTypes := #[]
  staticTypes := #[]
  resolved := Array.replicate 12 none
  statics := none }

def pool5 : Array CpInfo := pool [(2, .class_ 4), (1, u "java/lang/CharSequence"), (42, .class_ 48), (0, u "java/lang/CharSequence$1CodePointIterator"), (10, .class_ 60), (0, u "java/lang/CharSequence$1CharIterator"), (5, .class_ 67), (0, u "java/lang/Object")] 63

/-- java/lang/CharSequence -/
def k5 : Class := { plain "java/lang/CharSequence" (some 0) with
  accessFlags := 1537
  interfaces := #[]
  cf := some (fileOf pool5 2 #[.nestMembers #[47, 59]] #[] 1537 66 #[] #[])
  fields := #[]
  methods := #[]
  instanceTypes := #[]
  staticTypes := #[]
  resolved := Array.replicate 131 none
  statics := none }

def pool6 : Array CpInfo := pool [(1, .class_ 2), (0, u "java/lang/constant/Constable"), (0, .class_ 4), (0, u "java/lang/Object")] 6

/-- java/lang/constant/Constable -/
def k6 : Class := { plain "java/lang/constant/Constable" (some 0) with
  accessFlags := 1537
  interfaces := #[]
  cf := some (fileOf pool6 1 #[] #[] 1537 3 #[] #[])
  fields := #[]
  methods := #[]
  instanceTypes := #[]
  staticTypes := #[]
  resolved := Array.replicate 11 none
  statics := none }

def pool7 : Array CpInfo := pool [(1, .class_ 2), (0, u "java/lang/constant/ConstantDesc"), (0, .class_ 4), (0, u "java/lang/Object")] 32

/-- java/lang/constant/ConstantDesc -/
def k7 : Class := { plain "java/lang/constant/ConstantDesc" (some 0) with
  accessFlags := 1537
  interfaces := #[]
  cf := some (fileOf pool7 1 #[] #[] 1537 3 #[] #[])
  fields := #[]
  methods := #[]
  instanceTypes := #[]
  staticTypes := #[]
  resolved := Array.replicate 37 none
  statics := none }

def pool8 : Array CpInfo := pool [(1, .methodref 2 3), (0, .class_ 4), (0, .nameAndType 5 6), (0, u "java/lang/Object"), (0, u "<init>"), (0, u "()V"), (2, .fieldref 10 11), (0, .class_ 12), (0, .nameAndType 13 14), (0, u "java/lang/String"), (0, u "value"), (0, u "[B"), (0, .fieldref 10 16), (0, .nameAndType 17 18), (0, u "coder"), (0, u "B"), (2, u "hash"), (0, u "I"), (2, u "hashIsZero"), (0, u "Z"), (11, .fieldref 10 39), (0, .nameAndType 40 26), (0, u "COMPACT_STRINGS"), (13, .methodref 55 56), (0, .class_ 57), (0, .nameAndType 58 59), (0, u "java/util/Arrays"), (0, u "copyOfRange"), (0, u "([BII)[B"), (82, u "()Z"), (50, .class_ 195), (1, u "java/lang/System"), (16, .methodref 193 213), (0, .nameAndType 214 215), (0, u "arraycopy"), (0, u "(Ljava/lang/Object;ILjava/lang/Object;II)V"), (118, u "()I"), (0, .methodref 10 336), (0, .nameAndType 17 337), (0, u "()B"), (2, u "()[B"), (148, .methodref 10 490), (0, .nameAndType 5 491), (0, u "(Ljava/lang/AbstractStringBuilder;Ljava/lang/Void;)V"), (1, .nameAndType 494 142), (0, u "isLatin1"), (11, .nameAndType 507 334), (0, u "length"), (24, u "getBytes"), (16, .methodref 550 506), (0, .class_ 551), (0, u "java/lang/AbstractStringBuilder"), (0, .methodref 550 553), (0, .nameAndType 554 340), (0, u "getValue"), (20, .class_ 576), (0, u "java/lang/CharSequence"), (22, u "CASE_INSENSITIVE_ORDER"), (0, u "Ljava/util/Comparator;"), (220, u "([BIB)V"), (225, .methodref 550 493), (53, u "serialPersistentFields"), (0, u "[Ljava/io/ObjectStreamField;"), (0, .class_ 1104), (0, u "java/lang/String$CaseInsensitiveComparator"), (1, .class_ 1107), (0, u "java/io/Serializable"), (0, .class_ 1109), (0, u "java/lang/Comparable"), (0, .class_ 1111), (0, u "java/lang/constant/Constable"), (0, .class_ 1113), (0, u "java/lang/constant/ConstantDesc"), (2, u "serialVersionUID"), (0, u "J"), (3, u "REPL"), (0, u "C"), (2, u "LATIN1"), (1, u "UTF16"), (105, u "(Ljava/lang/StringBuilder;)V")] 217

def k8m0 : Method := { name := "<init>", desc := "()V", sig := { parameters := [], returnType := none }, accessFlags := 1, code := none }
def k8c1 : Code := { maxStack := 3, maxLocals := 2, code := jdk_42_method_53_code, exceptionTable := #[], attributes := #[] }
def k8m1 : Method := { name := "<init>", desc := "(Ljava/lang/StringBuilder;)V", sig := { parameters := [(.object "java/lang/StringBuilder")], returnType := none }, accessFlags := 1, code := some k8c1 }
def k8c2 : Code := { maxStack := 2, maxLocals := 1, code := jdk_42_method_54_code, exceptionTable := #[], attributes := #[] }
def k8m2 : Method := { name := "length", desc := "()I", sig := { parameters := [], returnType := some .int }, accessFlags := 1, code := some k8c2 }
def k8c3 : Code := { maxStack := 5, maxLocals := 4, code := jdk_42_method_147_code, exceptionTable := #[], attributes := #[] }
def k8m3 : Method := { name := "getBytes", desc := "([BIB)V", sig := { parameters := [(.array .byte), .int, .byte], returnType := none }, accessFlags := 0, code := some k8c3 }
def k8c4 : Code := { maxStack := 5, maxLocals := 5, code := jdk_42_method_150_code, exceptionTable := #[], attributes := #[] }
def k8m4 : Method := { name := "<init>", desc := "(Ljava/lang/AbstractStringBuilder;Ljava/lang/Void;)V", sig := { parameters := [(.object "java/lang/AbstractStringBuilder"), (.object "java/lang/Void")], returnType := none }, accessFlags := 0, code := some k8c4 }
def k8c5 : Code := { maxStack := 1, maxLocals := 1, code := jdk_42_method_152_code, exceptionTable := #[], attributes := #[] }
def k8m5 : Method := { name := "coder", desc := "()B", sig := { parameters := [], returnType := some .byte }, accessFlags := 0, code := some k8c5 }
/-- java/lang/String -/
def k8 : Class := { plain "java/lang/String" (some 0) with
  accessFlags := 49
  interfaces := #[3, 4, 5, 6, 7]
  cf := some (fileOf pool8 10 #[.nestMembers #[1103]] #[{ accessFlags := 1, nameIndex := 5, descriptorIndex := 6, attributes := #[] }, { accessFlags := 1, nameIndex := 5, descriptorIndex := 1233, attributes := #[] }, { accessFlags := 1, nameIndex := 507, descriptorIndex := 334, attributes := #[] }, { accessFlags := 0, nameIndex := 532, descriptorIndex := 821, attributes := #[] }, { accessFlags := 0, nameIndex := 5, descriptorIndex := 491, attributes := #[] }, { accessFlags := 0, nameIndex := 17, descriptorIndex := 337, attributes := #[] }] 49 2 #[1106, 1108, 575, 1110, 1112] #[{ accessFlags := 18, nameIndex := 13, descriptorIndex := 14, attributes := #[] }, { accessFlags := 18, nameIndex := 17, descriptorIndex := 18, attributes := #[] }, { accessFlags := 2, nameIndex := 21, descriptorIndex := 22, attributes := #[] }, { accessFlags := 2, nameIndex := 25, descriptorIndex := 26, attributes := #[] }, { accessFlags := 26, nameIndex := 1116, descriptorIndex := 1117, attributes := #[] }, { accessFlags := 24, nameIndex := 40, descriptorIndex := 26, attributes := #[] }, { accessFlags := 26, nameIndex := 1101, descriptorIndex := 1102, attributes := #[] }, { accessFlags := 26, nameIndex := 1121, descriptorIndex := 1122, attributes := #[] }, { accessFlags := 25, nameIndex := 599, descriptorIndex := 600, attributes := #[] }, { accessFlags := 24, nameIndex := 1125, descriptorIndex := 18, attributes := #[] }, { accessFlags := 24, nameIndex := 1127, descriptorIndex := 18, attributes := #[] }])
  fields := #[{ name := "value", type := (.array .byte), accessFlags := 18, slot := 0, constantValue := 0 }, { name := "coder", type := .byte, accessFlags := 18, slot := 1, constantValue := 0 }, { name := "hash", type := .int, accessFlags := 2, slot := 2, constantValue := 0 }, { name := "hashIsZero", type := .boolean, accessFlags := 2, slot := 3, constantValue := 0 }, { name := "serialVersionUID", type := .long, accessFlags := 26, slot := 0, constantValue := 0 }, { name := "COMPACT_STRINGS", type := .boolean, accessFlags := 24, slot := 1, constantValue := 0 }, { name := "serialPersistentFields", type := (.array (.object "java/io/ObjectStreamField")), accessFlags := 26, slot := 2, constantValue := 0 }, { name := "REPL", type := .char, accessFlags := 26, slot := 3, constantValue := 0 }, { name := "CASE_INSENSITIVE_ORDER", type := (.object "java/util/Comparator"), accessFlags := 25, slot := 4, constantValue := 0 }, { name := "LATIN1", type := .byte, accessFlags := 24, slot := 5, constantValue := 0 }, { name := "UTF16", type := .byte, accessFlags := 24, slot := 6, constantValue := 0 }]
  methods := #[k8m0, k8m1, k8m2, k8m3, k8m4, k8m5]
  instanceTypes := #[(.array .byte), .byte, .int, .boolean]
  staticTypes := #[.long, .boolean, (.array (.object "java/io/ObjectStreamField")), .char, (.object "java/util/Comparator"), .byte, .byte]
  resolved := Array.replicate 1451 none
  statics := some 0 }

def pool9 : Array CpInfo := pool [(2, .class_ 4), (1, u "java/lang/Object"), (0, u "<init>"), (0, u "()V"), (35, .class_ 44), (1, u "java/util/Objects"), (0, u "requireNonNull"), (48, u "(Ljava/lang/Object;Ljava/lang/String;)Ljava/lang/Object;")] 89

def k9m0 : Method := { name := "<init>", desc := "()V", sig := { parameters := [], returnType := none }, accessFlags := 2, code := none }
def k9c1 : Code := { maxStack := 3, maxLocals := 2, code := jdk_31_method_11_code, exceptionTable := #[], attributes := #[] }
def k9m1 : Method := { name := "requireNonNull", desc := "(Ljava/lang/Object;Ljava/lang/String;)Ljava/lang/Object;", sig := { parameters := [(.object "java/lang/Object"), (.object "java/lang/String")], returnType := some (.object "java/lang/Object") }, accessFlags := 9, code := some k9c1 }
/-- java/util/Objects -/
def k9 : Class := { plain "java/util/Objects" (some 0) with
  accessFlags := 49
  interfaces := #[]
  cf := some (fileOf pool9 42 #[] #[{ accessFlags := 2, nameIndex := 5, descriptorIndex := 6, attributes := #[] }, { accessFlags := 9, nameIndex := 45, descriptorIndex := 94, attributes := #[] }] 49 2 #[] #[])
  fields := #[]
  methods := #[k9m0, k9m1]
  instanceTypes := #[]
  staticTypes := #[]
  resolved := Array.replicate 184 none
  statics := none }

def pool10 : Array CpInfo := pool [(2, .class_ 4), (0, .nameAndType 5 6), (0, u "java/lang/Object"), (0, u "<init>"), (0, u "()V"), (2, .methodref 10 11), (0, .class_ 12), (0, .nameAndType 13 14), (0, u "java/util/Objects"), (0, u "requireNonNull"), (0, u "(Ljava/lang/Object;Ljava/lang/String;)Ljava/lang/Object;"), (3, .class_ 20), (1, u "com/example/ordr/ordr/model/Layout"), (0, u "layered"), (0, u "Lcom/example/ordr/ordr/model/LayeredGraph;"), (6, u "centres"), (0, u "Lcom/example/ordr/ordr/model/Coordinates;"), (6, u "boxes"), (0, u "Lcom/example/ordr/ordr/model/BoxSizes;"), (6, u "stats"), (0, u "Lcom/example/ordr/ordr/model/LayoutStats;"), (7, .class_ 55), (0, u "java/lang/StringBuilder"), (0, .methodref 54 3), (2, u "append"), (3, .methodref 54 64), (0, .nameAndType 59 65), (0, u "(Ljava/lang/String;)Ljava/lang/StringBuilder;"), (2, .methodref 54 69), (0, .nameAndType 70 71), (0, u "toString"), (0, u "()Ljava/lang/String;"), (29, u "routes"), (0, u "[[D"), (2, u "ends"), (2, u "rows"), (7, .class_ 117), (0, u "java/lang/Double"), (2, .class_ 121), (0, u "[D"), (4, u "checked"), (0, u "([DLjava/lang/String;ID)[D"), (29, .methodref 18 158), (0, .nameAndType 159 160), (0, u "firstBelow"), (0, u "([DD)I"), (4, .methodref 120 166), (0, .nameAndType 167 168), (0, u "clone"), (0, u "()Ljava/lang/Object;"), (41, .class_ 211), (0, u "com/example/ordr/ordr/model/Layout$Polyline"), (18, .string 231), (0, u " is null"), (6, .methodref 116 239), (0, .nameAndType 240 241), (0, u "isFinite"), (0, u "(D)Z")] 22

def k10c0 : Code := { maxStack := 5, maxLocals := 6, code := prog_86_method_17_code, exceptionTable := #[], attributes := #[] }
def k10m0 : Method := { name := "checked", desc := "([DLjava/lang/String;ID)[D", sig := { parameters := [(.array .double), (.object "java/lang/String"), .int, .double], returnType := some (.array .double) }, accessFlags := 8, code := some k10c0 }
def k10c1 : Code := { maxStack := 4, maxLocals := 4, code := prog_86_method_18_code, exceptionTable := #[], attributes := #[] }
def k10m1 : Method := { name := "firstBelow", desc := "([DD)I", sig := { parameters := [(.array .double), .double], returnType := some .int }, accessFlags := 10, code := some k10c1 }
/-- com/example/ordr/ordr/model/Layout -/
def k10 : Class := { plain "com/example/ordr/ordr/model/Layout" (some 0) with
  accessFlags := 49
  interfaces := #[]
  cf := some (fileOf pool10 18 #[.nestMembers #[210]] #[{ accessFlags := 8, nameIndex := 126, descriptorIndex := 127, attributes := #[] }, { accessFlags := 10, nameIndex := 159, descriptorIndex := 160, attributes := #[] }] 49 2 #[] #[{ accessFlags := 18, nameIndex := 21, descriptorIndex := 22, attributes := #[] }, { accessFlags := 18, nameIndex := 29, descriptorIndex := 30, attributes := #[] }, { accessFlags := 18, nameIndex := 37, descriptorIndex := 38, attributes := #[] }, { accessFlags := 18, nameIndex := 101, descriptorIndex := 102, attributes := #[] }, { accessFlags := 18, nameIndex := 105, descriptorIndex := 102, attributes := #[] }, { accessFlags := 18, nameIndex := 108, descriptorIndex := 102, attributes := #[] }, { accessFlags := 18, nameIndex := 45, descriptorIndex := 46, attributes := #[] }])
  fields := #[{ name := "layered", type := (.object "com/example/ordr/ordr/model/LayeredGraph"), accessFlags := 18, slot := 0, constantValue := 0 }, { name := "centres", type := (.object "com/example/ordr/ordr/model/Coordinates"), accessFlags := 18, slot := 1, constantValue := 0 }, { name := "boxes", type := (.object "com/example/ordr/ordr/model/BoxSizes"), accessFlags := 18, slot := 2, constantValue := 0 }, { name := "routes", type := (.array (.array .double)), accessFlags := 18, slot := 3, constantValue := 0 }, { name := "ends", type := (.array (.array .double)), accessFlags := 18, slot := 4, constantValue := 0 }, { name := "rows", type := (.array (.array .double)), accessFlags := 18, slot := 5, constantValue := 0 }, { name := "stats", type := (.object "com/example/ordr/ordr/model/LayoutStats"), accessFlags := 18, slot := 6, constantValue := 0 }]
  methods := #[k10m0, k10m1]
  instanceTypes := #[(.object "com/example/ordr/ordr/model/LayeredGraph"), (.object "com/example/ordr/ordr/model/Coordinates"), (.object "com/example/ordr/ordr/model/BoxSizes"), (.array (.array .double)), (.array (.array .double)), (.array (.array .double)), (.object "com/example/ordr/ordr/model/LayoutStats")]
  staticTypes := #[]
  resolved := Array.replicate 264 none
  statics := none }

def pool11 : Array CpInfo := pool [(1, .class_ 2), (0, u "java/lang/Appendable"), (0, .class_ 4), (0, u "java/lang/Object")] 9

/-- java/lang/Appendable -/
def k11 : Class := { plain "java/lang/Appendable" (some 0) with
  accessFlags := 1537
  interfaces := #[]
  cf := some (fileOf pool11 1 #[] #[] 1537 3 #[] #[])
  fields := #[]
  methods := #[]
  instanceTypes := #[]
  staticTypes := #[]
  resolved := Array.replicate 14 none
  statics := none }

def pool12 : Array CpInfo := pool [(1, .class_ 2), (0, u "java/lang/String"), (0, .methodref 4 5), (0, .class_ 6), (0, .nameAndType 7 8), (0, u "java/lang/Object"), (0, u "<init>"), (0, u "()V"), (1, .class_ 12), (1, u "java/lang/AbstractStringBuilder"), (0, u "EMPTYVALUE"), (0, u "[B"), (0, .fieldref 10 16), (0, .nameAndType 17 14), (0, u "value"), (0, .fieldref 1 19), (0, .nameAndType 20 21), (0, u "COMPACT_STRINGS"), (0, u "Z"), (0, .fieldref 10 23), (0, .nameAndType 24 25), (0, u "coder"), (0, u "B"), (6, .methodref 1 33), (0, .nameAndType 34 35), (0, u "length"), (0, u "()I"), (4, .methodref 1 41), (0, .nameAndType 24 42), (0, u "()B"), (2, u "append"), (0, u "(Ljava/lang/String;)Ljava/lang/AbstractStringBuilder;"), (1, .class_ 49), (0, u "java/lang/CharSequence"), (19, u "(Ljava/lang/String;)V"), (5, u "maybeLatin1"), (3, .fieldref 10 80), (0, .nameAndType 81 82), (0, u "count"), (0, u "I"), (2, u "isLatin1"), (0, u "()Z"), (13, .methodref 10 101), (0, .nameAndType 102 103), (0, u "ensureCapacityInternal"), (0, u "(I)V"), (104, .methodref 10 209), (0, .nameAndType 210 211), (0, u "putStringAt"), (0, u "(ILjava/lang/String;)V"), (5, u "inflateIfNeededFor"), (2, .nameAndType 221 222), (0, u "getBytes"), (0, u "([BIB)V"), (174, .methodref 10 398), (0, .nameAndType 217 69), (0, .methodref 1 220), (3, u "()[B"), (40, .class_ 445), (0, u "java/lang/Appendable"), (106, u "getValue")] 56

def k12m0 : Method := { name := "<init>", desc := "()V", sig := { parameters := [], returnType := none }, accessFlags := 0, code := none }
def k12c1 : Code := { maxStack := 2, maxLocals := 2, code := jdk_68_method_2_code, exceptionTable := #[], attributes := #[] }
def k12m1 : Method := { name := "<init>", desc := "(I)V", sig := { parameters := [.int], returnType := none }, accessFlags := 0, code := some k12c1 }
def k12c2 : Code := { maxStack := 1, maxLocals := 1, code := jdk_68_method_6_code, exceptionTable := #[], attributes := #[] }
def k12m2 : Method := { name := "length", desc := "()I", sig := { parameters := [], returnType := some .int }, accessFlags := 1, code := some k12c2 }
def k12c3 : Code := { maxStack := 4, maxLocals := 3, code := jdk_68_method_9_code, exceptionTable := #[], attributes := #[] }
def k12m3 : Method := { name := "ensureCapacityInternal", desc := "(I)V", sig := { parameters := [.int], returnType := none }, accessFlags := 2, code := some k12c3 }
def k12c4 : Code := { maxStack := 3, maxLocals := 3, code := jdk_68_method_22_code, exceptionTable := #[], attributes := #[] }
def k12m4 : Method := { name := "append", desc := "(Ljava/lang/String;)Ljava/lang/AbstractStringBuilder;", sig := { parameters := [(.object "java/lang/String")], returnType := some (.object "java/lang/AbstractStringBuilder") }, accessFlags := 1, code := some k12c4 }
def k12c5 : Code := { maxStack := 1, maxLocals := 1, code := jdk_68_method_64_code, exceptionTable := #[], attributes := #[] }
def k12m5 : Method := { name := "getValue", desc := "()[B", sig := { parameters := [], returnType := some (.array .byte) }, accessFlags := 16, code := some k12c5 }
def k12c6 : Code := { maxStack := 1, maxLocals := 1, code := jdk_68_method_68_code, exceptionTable := #[], attributes := #[] }
def k12m6 : Method := { name := "isLatin1", desc := "()Z", sig := { parameters := [], returnType := some .boolean }, accessFlags := 16, code := some k12c6 }
def k12c7 : Code := { maxStack := 2, maxLocals := 2, code := jdk_68_method_71_code, exceptionTable := #[], attributes := #[] }
def k12m7 : Method := { name := "inflateIfNeededFor", desc := "(Ljava/lang/String;)V", sig := { parameters := [(.object "java/lang/String")], returnType := none }, accessFlags := 2, code := some k12c7 }
def k12c8 : Code := { maxStack := 4, maxLocals := 3, code := jdk_68_method_73_code, exceptionTable := #[], attributes := #[] }
def k12m8 : Method := { name := "putStringAt", desc := "(ILjava/lang/String;)V", sig := { parameters := [.int, (.object "java/lang/String")], returnType := none }, accessFlags := 2, code := some k12c8 }
/-- java/lang/AbstractStringBuilder -/
def k12 : Class := { plain "java/lang/AbstractStringBuilder" (some 0) with
  accessFlags := 1056
  interfaces := #[11, 5]
  cf := some (fileOf pool12 10 #[] #[{ accessFlags := 0, nameIndex := 7, descriptorIndex := 8, attributes := #[] }, { accessFlags := 0, nameIndex := 7, descriptorIndex := 103, attributes := #[] }, { accessFlags := 1, nameIndex := 34, descriptorIndex := 35, attributes := #[] }, { accessFlags := 2, nameIndex := 102, descriptorIndex := 103, attributes := #[] }, { accessFlags := 1, nameIndex := 45, descriptorIndex := 46, attributes := #[] }, { accessFlags := 16, nameIndex := 552, descriptorIndex := 403, attributes := #[] }, { accessFlags := 16, nameIndex := 85, descriptorIndex := 86, attributes := #[] }, { accessFlags := 2, nameIndex := 217, descriptorIndex := 69, attributes := #[] }, { accessFlags := 2, nameIndex := 210, descriptorIndex := 211, attributes := #[] }] 1056 4 #[444, 48] #[{ accessFlags := 0, nameIndex := 17, descriptorIndex := 14, attributes := #[] }, { accessFlags := 0, nameIndex := 24, descriptorIndex := 25, attributes := #[] }, { accessFlags := 0, nameIndex := 75, descriptorIndex := 21, attributes := #[] }, { accessFlags := 0, nameIndex := 81, descriptorIndex := 82, attributes := #[] }, { accessFlags := 26, nameIndex := 13, descriptorIndex := 14, attributes := #[] }])
  fields := #[{ name := "value", type := (.array .byte), accessFlags := 0, slot := 0, constantValue := 0 }, { name := "coder", type := .byte, accessFlags := 0, slot := 1, constantValue := 0 }, { name := "maybeLatin1", type := .boolean, accessFlags := 0, slot := 2, constantValue := 0 }, { name := "count", type := .int, accessFlags := 0, slot := 3, constantValue := 0 }, { name := "EMPTYVALUE", type := (.array .byte), accessFlags := 26, slot := 0, constantValue := 0 }]
  methods := #[k12m0, k12m1, k12m2, k12m3, k12m4, k12m5, k12m6, k12m7, k12m8]
  instanceTypes := #[(.array .byte), .byte, .boolean, .int]
  staticTypes := #[(.array .byte)]
  resolved := Array.replicate 609 none
  statics := none }

def pool13 : Array CpInfo := pool [(1, .methodref 2 3), (0, .class_ 4), (0, .nameAndType 5 6), (0, u "java/lang/AbstractStringBuilder"), (0, u "<init>"), (0, u "(I)V"), (11, .class_ 20), (1, u "java/lang/String"), (3, .class_ 26), (1, u "java/lang/StringBuilder"), (0, u "append"), (0, u "(Ljava/lang/String;)Ljava/lang/StringBuilder;"), (0, .methodref 2 30), (0, .nameAndType 27 31), (0, u "(Ljava/lang/String;)Ljava/lang/AbstractStringBuilder;"), (105, .methodref 18 138), (0, .nameAndType 5 139), (0, u "(Ljava/lang/StringBuilder;)V"), (5, u "()V"), (10, u "()I"), (186, .methodref 2 344), (0, .nameAndType 345 156), (0, u "length"), (3, .class_ 350), (0, u "java/lang/Appendable"), (0, .class_ 352), (0, u "java/io/Serializable"), (0, .class_ 354), (0, u "java/lang/Comparable"), (0, .class_ 356), (0, u "java/lang/CharSequence"), (0, u "serialVersionUID"), (0, u "J"), (40, u "toString"), (0, u "()Ljava/lang/String;")] 21

def k13c0 : Code := { maxStack := 2, maxLocals := 1, code := jdk_67_method_1_code, exceptionTable := #[], attributes := #[] }
def k13m0 : Method := { name := "<init>", desc := "()V", sig := { parameters := [], returnType := none }, accessFlags := 1, code := some k13c0 }
def k13c1 : Code := { maxStack := 2, maxLocals := 2, code := jdk_67_method_7_code, exceptionTable := #[], attributes := #[] }
def k13m1 : Method := { name := "append", desc := "(Ljava/lang/String;)Ljava/lang/StringBuilder;", sig := { parameters := [(.object "java/lang/String")], returnType := some (.object "java/lang/StringBuilder") }, accessFlags := 1, code := some k13c1 }
def k13c2 : Code := { maxStack := 3, maxLocals := 1, code := jdk_67_method_42_code, exceptionTable := #[], attributes := #[] }
def k13m2 : Method := { name := "toString", desc := "()Ljava/lang/String;", sig := { parameters := [], returnType := some (.object "java/lang/String") }, accessFlags := 1, code := some k13c2 }
def k13c3 : Code := { maxStack := 1, maxLocals := 1, code := jdk_67_method_93_code, exceptionTable := #[], attributes := #[] }
def k13m3 : Method := { name := "length", desc := "()I", sig := { parameters := [], returnType := some .int }, accessFlags := 4161, code := some k13c3 }
/-- java/lang/StringBuilder -/
def k13 : Class := { plain "java/lang/StringBuilder" (some 12) with
  accessFlags := 49
  interfaces := #[11, 3, 4, 5]
  cf := some (fileOf pool13 24 #[] #[{ accessFlags := 1, nameIndex := 5, descriptorIndex := 145, attributes := #[] }, { accessFlags := 1, nameIndex := 27, descriptorIndex := 28, attributes := #[] }, { accessFlags := 1, nameIndex := 399, descriptorIndex := 400, attributes := #[] }, { accessFlags := 4161, nameIndex := 345, descriptorIndex := 156, attributes := #[] }] 49 2 #[349, 351, 353, 355] #[{ accessFlags := 24, nameIndex := 357, descriptorIndex := 358, attributes := #[] }])
  fields := #[{ name := "serialVersionUID", type := .long, accessFlags := 24, slot := 0, constantValue := 0 }]
  methods := #[k13m0, k13m1, k13m2, k13m3]
  instanceTypes := #[(.array .byte), .byte, .boolean, .int]
  staticTypes := #[.long]
  resolved := Array.replicate 422 none
  statics := none }

def pool14 : Array CpInfo := pool [(2, .class_ 4), (1, u "java/lang/Object"), (0, u "<init>"), (0, u "()V"), (1, .class_ 10), (1, u "java/lang/System"), (0, u "allowSecurityManager"), (0, u "I"), (16, u "cons"), (0, u "Ljava/io/Console;"), (77, .class_ 110), (1, u "java/lang/System$CallersHolder"), (43, u "initialErrStream"), (0, u "Ljava/io/PrintStream;"), (19, u "security"), (0, u "Ljava/lang/SecurityManager;"), (31, .class_ 209), (0, u "java/lang/System$1"), (7, u "props"), (0, u "Ljava/util/Properties;"), (2, u "lineSeparator"), (0, u "Ljava/lang/String;"), (96, .class_ 321), (1, u "java/lang/System$LoggerFinder"), (5, .class_ 328), (0, u "java/lang/System$Logger"), (67, u "err"), (2, u "out"), (91, u "notSupportedJnuEncoding"), (15, u "in"), (17, u "initialIn"), (0, u "Ljava/io/InputStream;"), (35, u "bootLayer"), (0, u "Ljava/lang/ModuleLayer;"), (99, .class_ 664), (0, u "java/lang/System$2"), (9, u "NEVER"), (2, u "MAYBE"), (49, u "arraycopy"), (0, u "(Ljava/lang/Object;ILjava/lang/Object;II)V"), (72, .class_ 802), (0, u "java/lang/System$Logger$Level")] 31

def k14m0 : Method := { name := "<init>", desc := "()V", sig := { parameters := [], returnType := none }, accessFlags := 2, code := none }
def k14m1 : Method := { name := "arraycopy", desc := "(Ljava/lang/Object;ILjava/lang/Object;II)V", sig := { parameters := [(.object "java/lang/Object"), .int, (.object "java/lang/Object"), .int, .int], returnType := none }, accessFlags := 265, code := none }
/-- java/lang/System -/
def k14 : Class := { plain "java/lang/System" (some 0) with
  accessFlags := 49
  interfaces := #[]
  cf := some (fileOf pool14 8 #[.nestMembers #[319, 327, 801, 108, 663, 208]] #[{ accessFlags := 2, nameIndex := 5, descriptorIndex := 6, attributes := #[] }, { accessFlags := 265, nameIndex := 727, descriptorIndex := 728, attributes := #[] }] 49 2 #[] #[{ accessFlags := 25, nameIndex := 507, descriptorIndex := 526, attributes := #[] }, { accessFlags := 25, nameIndex := 399, descriptorIndex := 155, attributes := #[] }, { accessFlags := 25, nameIndex := 396, descriptorIndex := 155, attributes := #[] }, { accessFlags := 10, nameIndex := 525, descriptorIndex := 526, attributes := #[] }, { accessFlags := 26, nameIndex := 674, descriptorIndex := 12, attributes := #[] }, { accessFlags := 26, nameIndex := 677, descriptorIndex := 12, attributes := #[] }, { accessFlags := 10, nameIndex := 11, descriptorIndex := 12, attributes := #[] }, { accessFlags := 74, nameIndex := 175, descriptorIndex := 176, attributes := #[] }, { accessFlags := 10, nameIndex := 491, descriptorIndex := 222, attributes := #[] }, { accessFlags := 74, nameIndex := 29, descriptorIndex := 30, attributes := #[] }, { accessFlags := 74, nameIndex := 154, descriptorIndex := 155, attributes := #[] }, { accessFlags := 10, nameIndex := 217, descriptorIndex := 218, attributes := #[] }, { accessFlags := 10, nameIndex := 221, descriptorIndex := 222, attributes := #[] }, { accessFlags := 8, nameIndex := 562, descriptorIndex := 563, attributes := #[] }])
  fields := #[{ name := "in", type := (.object "java/io/InputStream"), accessFlags := 25, slot := 0, constantValue := 0 }, { name := "out", type := (.object "java/io/PrintStream"), accessFlags := 25, slot := 1, constantValue := 0 }, { name := "err", type := (.object "java/io/PrintStream"), accessFlags := 25, slot := 2, constantValue := 0 }, { name := "initialIn", type := (.object "java/io/InputStream"), accessFlags := 10, slot := 3, constantValue := 0 }, { name := "NEVER", type := .int, accessFlags := 26, slot := 4, constantValue := 0 }, { name := "MAYBE", type := .int, accessFlags := 26, slot := 5, constantValue := 0 }, { name := "allowSecurityManager", type := .int, accessFlags := 10, slot := 6, constantValue := 0 }, { name := "security", type := (.object "java/lang/SecurityManager"), accessFlags := 74, slot := 7, constantValue := 0 }, { name := "notSupportedJnuEncoding", type := (.object "java/lang/String"), accessFlags := 10, slot := 8, constantValue := 0 }, { name := "cons", type := (.object "java/io/Console"), accessFlags := 74, slot := 9, constantValue := 0 }, { name := "initialErrStream", type := (.object "java/io/PrintStream"), accessFlags := 74, slot := 10, constantValue := 0 }, { name := "props", type := (.object "java/util/Properties"), accessFlags := 10, slot := 11, constantValue := 0 }, { name := "lineSeparator", type := (.object "java/lang/String"), accessFlags := 10, slot := 12, constantValue := 0 }, { name := "bootLayer", type := (.object "java/lang/ModuleLayer"), accessFlags := 8, slot := 13, constantValue := 0 }]
  methods := #[k14m0, k14m1]
  instanceTypes := #[]
  staticTypes := #[(.object "java/io/InputStream"), (.object "java/io/PrintStream"), (.object "java/io/PrintStream"), (.object "java/io/InputStream"), .int, .int, .int, (.object "java/lang/SecurityManager"), (.object "java/lang/String"), (.object "java/io/Console"), (.object "java/io/PrintStream"), (.object "java/util/Properties"), (.object "java/lang/String"), (.object "java/lang/ModuleLayer")]
  resolved := Array.replicate 834 none
  statics := none }

def pool15 : Array CpInfo := pool [(2, .class_ 4), (1, u "java/lang/Object"), (0, u "<init>"), (0, u "()V"), (7, .class_ 16), (1, u "java/util/Arrays"), (57, .class_ 76), (1, u "java/util/Arrays$NaturalOrder"), (32, u "()Ljava/lang/Object;"), (3, .class_ 115), (1, u "java/util/Arrays$LegacyMergeSort"), (1, u "Z"), (10, .nameAndType 129 109), (0, u "clone"), (9, u "copyOfRange"), (10, .methodref 151 152), (0, .class_ 153), (0, .nameAndType 154 155), (0, u "java/lang/System"), (0, u "arraycopy"), (0, u "(Ljava/lang/Object;ILjava/lang/Object;II)V"), (148, .methodref 305 306), (0, .class_ 307), (0, .nameAndType 308 309), (0, u "java/lang/Math"), (0, u "min"), (0, u "(II)I"), (0, .methodref 311 128), (0, .class_ 312), (0, u "[B"), (26, .methodref 14 340), (0, .nameAndType 341 342), (0, u "copyOfRangeByte"), (0, u "([BII)[B"), (0, .methodref 14 344), (0, .nameAndType 345 346), (0, u "checkLength"), (0, u "(II)V"), (28, .class_ 376), (0, u "java/util/Arrays$ArrayList"), (68, u "$assertionsDisabled"), (269, u "MIN_ARRAY_SORT_GRAN"), (0, u "I"), (2, u "INSERTIONSORT_THRESHOLD"), (255, .class_ 976), (0, u "java/util/Arrays$ArrayItr")] 52

def k15m0 : Method := { name := "<init>", desc := "()V", sig := { parameters := [], returnType := none }, accessFlags := 2, code := none }
def k15c1 : Code := { maxStack := 4, maxLocals := 2, code := jdk_65_method_131_code, exceptionTable := #[], attributes := #[] }
def k15m1 : Method := { name := "checkLength", desc := "(II)V", sig := { parameters := [.int, .int], returnType := none }, accessFlags := 10, code := some k15c1 }
def k15c2 : Code := { maxStack := 3, maxLocals := 3, code := jdk_65_method_132_code, exceptionTable := #[], attributes := #[] }
def k15m2 : Method := { name := "copyOfRange", desc := "([BII)[B", sig := { parameters := [(.array .byte), .int, .int], returnType := some (.array .byte) }, accessFlags := 9, code := some k15c2 }
def k15c3 : Code := { maxStack := 6, maxLocals := 5, code := jdk_65_method_133_code, exceptionTable := #[], attributes := #[] }
def k15m3 : Method := { name := "copyOfRangeByte", desc := "([BII)[B", sig := { parameters := [(.array .byte), .int, .int], returnType := some (.array .byte) }, accessFlags := 10, code := some k15c3 }
/-- java/util/Arrays -/
def k15 : Class := { plain "java/util/Arrays" (some 0) with
  accessFlags := 49
  interfaces := #[]
  cf := some (fileOf pool15 14 #[.nestMembers #[975, 375, 113, 74]] #[{ accessFlags := 2, nameIndex := 5, descriptorIndex := 6, attributes := #[] }, { accessFlags := 10, nameIndex := 345, descriptorIndex := 346, attributes := #[] }, { accessFlags := 9, nameIndex := 139, descriptorIndex := 342, attributes := #[] }, { accessFlags := 10, nameIndex := 341, descriptorIndex := 342, attributes := #[] }] 49 2 #[] #[{ accessFlags := 26, nameIndex := 715, descriptorIndex := 716, attributes := #[] }, { accessFlags := 26, nameIndex := 719, descriptorIndex := 716, attributes := #[] }, { accessFlags := 4120, nameIndex := 445, descriptorIndex := 117, attributes := #[] }])
  fields := #[{ name := "MIN_ARRAY_SORT_GRAN", type := .int, accessFlags := 26, slot := 0, constantValue := 0 }, { name := "INSERTIONSORT_THRESHOLD", type := .int, accessFlags := 26, slot := 1, constantValue := 0 }, { name := "$assertionsDisabled", type := .boolean, accessFlags := 4120, slot := 2, constantValue := 0 }]
  methods := #[k15m0, k15m1, k15m2, k15m3]
  instanceTypes := #[]
  staticTypes := #[.int, .int, .boolean]
  resolved := Array.replicate 1029 none
  statics := none }

def pool16 : Array CpInfo := pool [(1, .class_ 2), (0, u "java/lang/Math"), (1, .class_ 6), (1, u "java/lang/Object"), (0, u "<init>"), (0, u "()V"), (5, u "(D)D"), (83, .class_ 100), (1, u "java/lang/Math$RandomNumberGeneratorHolder"), (23, u "abs"), (47, u "negativeZeroFloatBits"), (0, u "J"), (2, u "negativeZeroDoubleBits"), (24, u "min"), (43, u "$assertionsDisabled"), (0, u "Z"), (88, u "(II)I"), (2, u "twoToTheDoubleScaleDown"), (0, u "D"), (4, u "twoToTheDoubleScaleUp"), (9, u "E"), (3, u "PI"), (2, u "TAU"), (2, u "DEGREES_TO_RADIANS"), (0, u "RADIANS_TO_DEGREES")] 94

def k16m0 : Method := { name := "<init>", desc := "()V", sig := { parameters := [], returnType := none }, accessFlags := 2, code := none }
def k16c1 : Code := { maxStack := 4, maxLocals := 2, code := jdk_29_method_64_code, exceptionTable := #[], attributes := #[] }
def k16m1 : Method := { name := "abs", desc := "(D)D", sig := { parameters := [.double], returnType := some .double }, accessFlags := 9, code := some k16c1 }
def k16c2 : Code := { maxStack := 2, maxLocals := 2, code := jdk_29_method_69_code, exceptionTable := #[], attributes := #[] }
def k16m2 : Method := { name := "min", desc := "(II)I", sig := { parameters := [.int, .int], returnType := some .int }, accessFlags := 9, code := some k16c2 }
/-- java/lang/Math -/
def k16 : Class := { plain "java/lang/Math" (some 0) with
  accessFlags := 49
  interfaces := #[]
  cf := some (fileOf pool16 1 #[.nestMembers #[98]] #[{ accessFlags := 2, nameIndex := 7, descriptorIndex := 8, attributes := #[] }, { accessFlags := 9, nameIndex := 124, descriptorIndex := 14, attributes := #[] }, { accessFlags := 9, nameIndex := 201, descriptorIndex := 335, attributes := #[] }] 49 4 #[] #[{ accessFlags := 25, nameIndex := 354, descriptorIndex := 339, attributes := #[] }, { accessFlags := 25, nameIndex := 358, descriptorIndex := 339, attributes := #[] }, { accessFlags := 25, nameIndex := 361, descriptorIndex := 339, attributes := #[] }, { accessFlags := 26, nameIndex := 364, descriptorIndex := 339, attributes := #[] }, { accessFlags := 26, nameIndex := 365, descriptorIndex := 339, attributes := #[] }, { accessFlags := 26, nameIndex := 172, descriptorIndex := 173, attributes := #[] }, { accessFlags := 26, nameIndex := 176, descriptorIndex := 173, attributes := #[] }, { accessFlags := 8, nameIndex := 344, descriptorIndex := 339, attributes := #[] }, { accessFlags := 8, nameIndex := 338, descriptorIndex := 339, attributes := #[] }, { accessFlags := 4120, nameIndex := 245, descriptorIndex := 246, attributes := #[] }])
  fields := #[{ name := "E", type := .double, accessFlags := 25, slot := 0, constantValue := 0 }, { name := "PI", type := .double, accessFlags := 25, slot := 1, constantValue := 0 }, { name := "TAU", type := .double, accessFlags := 25, slot := 2, constantValue := 0 }, { name := "DEGREES_TO_RADIANS", type := .double, accessFlags := 26, slot := 3, constantValue := 0 }, { name := "RADIANS_TO_DEGREES", type := .double, accessFlags := 26, slot := 4, constantValue := 0 }, { name := "negativeZeroFloatBits", type := .long, accessFlags := 26, slot := 5, constantValue := 0 }, { name := "negativeZeroDoubleBits", type := .long, accessFlags := 26, slot := 6, constantValue := 0 }, { name := "twoToTheDoubleScaleUp", type := .double, accessFlags := 8, slot := 7, constantValue := 0 }, { name := "twoToTheDoubleScaleDown", type := .double, accessFlags := 8, slot := 8, constantValue := 0 }, { name := "$assertionsDisabled", type := .boolean, accessFlags := 4120, slot := 9, constantValue := 0 }]
  methods := #[k16m0, k16m1, k16m2]
  instanceTypes := #[]
  staticTypes := #[.double, .double, .double, .double, .double, .long, .long, .double, .double, .boolean]
  resolved := Array.replicate 460 none
  statics := none }

def pool17 : Array CpInfo := pool [(1, .class_ 2), (0, u "java/lang/Cloneable"), (0, .class_ 4), (0, u "java/lang/Object")] 2

/-- java/lang/Cloneable -/
def k17 : Class := { plain "java/lang/Cloneable" (some 0) with
  accessFlags := 1537
  interfaces := #[]
  cf := some (fileOf pool17 1 #[] #[] 1537 3 #[] #[])
  fields := #[]
  methods := #[]
  instanceTypes := #[]
  staticTypes := #[]
  resolved := Array.replicate 7 none
  statics := none }

def pool18 : Array CpInfo := pool [(2, .class_ 4), (1, u "java/lang/Object"), (0, u "<init>"), (0, u "()V"), (1, .class_ 10), (1, u "java/lang/Number"), (2, .class_ 14), (0, u "java/io/Serializable"), (0, u "serialVersionUID"), (0, u "J")] 20

def k18m0 : Method := { name := "<init>", desc := "()V", sig := { parameters := [], returnType := none }, accessFlags := 1, code := none }
/-- java/lang/Number -/
def k18 : Class := { plain "java/lang/Number" (some 0) with
  accessFlags := 1057
  interfaces := #[3]
  cf := some (fileOf pool18 8 #[] #[{ accessFlags := 1, nameIndex := 5, descriptorIndex := 6, attributes := #[] }] 1057 2 #[13] #[{ accessFlags := 26, nameIndex := 15, descriptorIndex := 16, attributes := #[] }])
  fields := #[{ name := "serialVersionUID", type := .long, accessFlags := 26, slot := 0, constantValue := 0 }]
  methods := #[k18m0]
  instanceTypes := #[]
  staticTypes := #[.long]
  resolved := Array.replicate 37 none
  statics := none }

def pool19 : Array CpInfo := pool [(1, .class_ 2), (0, u "java/lang/Double"), (10, u "isFinite"), (0, u "(D)Z"), (8, .class_ 25), (1, u "java/lang/Math"), (12, .methodref 23 39), (0, .nameAndType 40 41), (0, u "abs"), (0, u "(D)D"), (69, .double 9218868437227405311), (2, .class_ 116), (1, u "java/lang/Number"), (3, u "value"), (0, u "D"), (51, u "TYPE"), (0, u "Ljava/lang/Class;"), (0, .class_ 176), (0, u "java/lang/Comparable"), (0, .class_ 178), (0, u "java/lang/constant/Constable"), (0, .class_ 180), (0, u "java/lang/constant/ConstantDesc"), (0, u "POSITIVE_INFINITY"), (3, u "NEGATIVE_INFINITY"), (2, u "NaN"), (2, u "MAX_VALUE"), (0, u "MIN_NORMAL"), (0, u "MIN_VALUE"), (2, u "SIZE"), (0, u "I"), (1, u "PRECISION"), (1, u "MAX_EXPONENT"), (1, u "MIN_EXPONENT"), (1, u "BYTES"), (3, u "serialVersionUID"), (0, u "J")] 79

def k19c0 : Code := { maxStack := 4, maxLocals := 2, code := jdk_117_method_8_code, exceptionTable := #[], attributes := #[] }
def k19m0 : Method := { name := "isFinite", desc := "(D)Z", sig := { parameters := [.double], returnType := some .boolean }, accessFlags := 9, code := some k19c0 }
/-- java/lang/Double -/
def k19 : Class := { plain "java/lang/Double" (some 18) with
  accessFlags := 49
  interfaces := #[4, 6, 7]
  cf := some (fileOf pool19 1 #[] #[{ accessFlags := 9, nameIndex := 13, descriptorIndex := 14, attributes := #[] }] 49 114 #[175, 177, 179] #[{ accessFlags := 25, nameIndex := 181, descriptorIndex := 121, attributes := #[] }, { accessFlags := 25, nameIndex := 185, descriptorIndex := 121, attributes := #[] }, { accessFlags := 25, nameIndex := 188, descriptorIndex := 121, attributes := #[] }, { accessFlags := 25, nameIndex := 191, descriptorIndex := 121, attributes := #[] }, { accessFlags := 25, nameIndex := 192, descriptorIndex := 121, attributes := #[] }, { accessFlags := 25, nameIndex := 193, descriptorIndex := 121, attributes := #[] }, { accessFlags := 25, nameIndex := 196, descriptorIndex := 197, attributes := #[] }, { accessFlags := 25, nameIndex := 199, descriptorIndex := 197, attributes := #[] }, { accessFlags := 25, nameIndex := 201, descriptorIndex := 197, attributes := #[] }, { accessFlags := 25, nameIndex := 203, descriptorIndex := 197, attributes := #[] }, { accessFlags := 25, nameIndex := 205, descriptorIndex := 197, attributes := #[] }, { accessFlags := 25, nameIndex := 173, descriptorIndex := 174, attributes := #[] }, { accessFlags := 18, nameIndex := 120, descriptorIndex := 121, attributes := #[] }, { accessFlags := 26, nameIndex := 209, descriptorIndex := 210, attributes := #[] }])
  fields := #[{ name := "POSITIVE_INFINITY", type := .double, accessFlags := 25, slot := 0, constantValue := 0 }, { name := "NEGATIVE_INFINITY", type := .double, accessFlags := 25, slot := 1, constantValue := 0 }, { name := "NaN", type := .double, accessFlags := 25, slot := 2, constantValue := 0 }, { name := "MAX_VALUE", type := .double, accessFlags := 25, slot := 3, constantValue := 0 }, { name := "MIN_NORMAL", type := .double, accessFlags := 25, slot := 4, constantValue := 0 }, { name := "MIN_VALUE", type := .double, accessFlags := 25, slot := 5, constantValue := 0 }, { name := "SIZE", type := .int, accessFlags := 25, slot := 6, constantValue := 0 }, { name := "PRECISION", type := .int, accessFlags := 25, slot := 7, constantValue := 0 }, { name := "MAX_EXPONENT", type := .int, accessFlags := 25, slot := 8, constantValue := 0 }, { name := "MIN_EXPONENT", type := .int, accessFlags := 25, slot := 9, constantValue := 0 }, { name := "BYTES", type := .int, accessFlags := 25, slot := 10, constantValue := 0 }, { name := "TYPE", type := (.object "java/lang/Class"), accessFlags := 25, slot := 11, constantValue := 0 }, { name := "value", type := .double, accessFlags := 18, slot := 0, constantValue := 0 }, { name := "serialVersionUID", type := .long, accessFlags := 26, slot := 12, constantValue := 0 }]
  methods := #[k19m0]
  instanceTypes := #[.double]
  staticTypes := #[.double, .double, .double, .double, .double, .double, .int, .int, .int, .int, .int, (.object "java/lang/Class"), .long]
  resolved := Array.replicate 290 none
  statics := none }

def pool20 : Array CpInfo := pool [(4, .class_ 6), (1, u "java/lang/Object"), (0, u "<init>"), (0, u "()V"), (5, .class_ 16), (1, u "java/lang/StringLatin1"), (104, u "$assertionsDisabled"), (0, u "Z"), (98, .class_ 223), (1, u "java/lang/StringLatin1$LinesSpliterator"), (166, .class_ 391), (0, u "java/lang/StringLatin1$CharsSpliterator")] 3

def k20m0 : Method := { name := "<init>", desc := "()V", sig := { parameters := [], returnType := none }, accessFlags := 0, code := none }
/-- java/lang/StringLatin1 -/
def k20 : Class := { plain "java/lang/StringLatin1" (some 0) with
  accessFlags := 48
  interfaces := #[]
  cf := some (fileOf pool20 14 #[.nestMembers #[390, 221]] #[{ accessFlags := 0, nameIndex := 7, descriptorIndex := 8, attributes := #[] }] 48 4 #[] #[{ accessFlags := 4120, nameIndex := 121, descriptorIndex := 122, attributes := #[] }])
  fields := #[{ name := "$assertionsDisabled", type := .boolean, accessFlags := 4120, slot := 0, constantValue := 0 }]
  methods := #[k20m0]
  instanceTypes := #[]
  staticTypes := #[.boolean]
  resolved := Array.replicate 395 none
  statics := none }

def pool21 : Array CpInfo := pool [(2, .class_ 4), (1, u "java/lang/Object"), (0, u "<init>"), (0, u "()V"), (17, .class_ 26), (1, u "jdk/internal/util/Preconditions"), (28, .class_ 56), (0, u "jdk/internal/util/Preconditions$4"), (57, .class_ 115), (0, u "jdk/internal/util/Preconditions$1"), (7, u "SIOOBE_FORMATTER"), (0, u "Ljava/util/function/BiFunction;"), (0, .class_ 126), (0, u "jdk/internal/util/Preconditions$2"), (3, u "AIOOBE_FORMATTER"), (0, .class_ 132), (0, u "jdk/internal/util/Preconditions$3"), (3, u "IOOBE_FORMATTER")] 57

def k21m0 : Method := { name := "<init>", desc := "()V", sig := { parameters := [], returnType := none }, accessFlags := 1, code := none }
/-- jdk/internal/util/Preconditions -/
def k21 : Class := { plain "jdk/internal/util/Preconditions" (some 0) with
  accessFlags := 33
  interfaces := #[]
  cf := some (fileOf pool21 24 #[.nestMembers #[55, 131, 125, 114]] #[{ accessFlags := 1, nameIndex := 5, descriptorIndex := 6, attributes := #[] }] 33 2 #[] #[{ accessFlags := 25, nameIndex := 123, descriptorIndex := 124, attributes := #[] }, { accessFlags := 25, nameIndex := 130, descriptorIndex := 124, attributes := #[] }, { accessFlags := 25, nameIndex := 136, descriptorIndex := 124, attributes := #[] }])
  fields := #[{ name := "SIOOBE_FORMATTER", type := (.object "java/util/function/BiFunction"), accessFlags := 25, slot := 0, constantValue := 0 }, { name := "AIOOBE_FORMATTER", type := (.object "java/util/function/BiFunction"), accessFlags := 25, slot := 1, constantValue := 0 }, { name := "IOOBE_FORMATTER", type := (.object "java/util/function/BiFunction"), accessFlags := 25, slot := 2, constantValue := 0 }]
  methods := #[k21m0]
  instanceTypes := #[]
  staticTypes := #[(.object "java/util/function/BiFunction"), (.object "java/util/function/BiFunction"), (.object "java/util/function/BiFunction")]
  resolved := Array.replicate 194 none
  statics := some 1 }

def pool22 : Array CpInfo := pool [(9, u "<init>"), (6, .class_ 18), (1, u "java/lang/Object"), (0, u "()V"), (1, .class_ 23), (1, u "jdk/internal/util/ArraysSupport"), (0, u "LOG2_ARRAY_LONG_INDEX_SCALE"), (0, u "I"), (2, u "U"), (0, u "Ljdk/internal/misc/Unsafe;"), (8, u "BIG_ENDIAN"), (0, u "Z"), (8, u "LOG2_BYTE_BIT_SIZE"), (4, u "LOG2_ARRAY_INT_INDEX_SCALE"), (54, u "JLA"), (0, u "Ljdk/internal/access/JavaLangAccess;"), (11, u "LOG2_ARRAY_BOOLEAN_INDEX_SCALE"), (9, u "LOG2_ARRAY_BYTE_INDEX_SCALE"), (5, u "LOG2_ARRAY_CHAR_INDEX_SCALE"), (5, u "LOG2_ARRAY_SHORT_INDEX_SCALE"), (18, u "LOG2_ARRAY_FLOAT_INDEX_SCALE"), (24, u "LOG2_ARRAY_DOUBLE_INDEX_SCALE"), (89, u "T_BOOLEAN"), (2, u "T_CHAR"), (1, u "T_FLOAT"), (1, u "T_DOUBLE"), (1, u "T_BYTE"), (1, u "T_SHORT"), (1, u "T_INT"), (1, u "T_LONG"), (1, u "SOFT_MAX_ARRAY_LENGTH")] 83

def k22m0 : Method := { name := "<init>", desc := "()V", sig := { parameters := [], returnType := none }, accessFlags := 2, code := none }
/-- jdk/internal/util/ArraysSupport -/
def k22 : Class := { plain "jdk/internal/util/ArraysSupport" (some 0) with
  accessFlags := 33
  interfaces := #[]
  cf := some (fileOf pool22 21 #[] #[{ accessFlags := 2, nameIndex := 9, descriptorIndex := 19, attributes := #[] }] 33 16 #[] #[{ accessFlags := 24, nameIndex := 28, descriptorIndex := 29, attributes := #[] }, { accessFlags := 26, nameIndex := 38, descriptorIndex := 39, attributes := #[] }, { accessFlags := 25, nameIndex := 121, descriptorIndex := 25, attributes := #[] }, { accessFlags := 25, nameIndex := 131, descriptorIndex := 25, attributes := #[] }, { accessFlags := 25, nameIndex := 137, descriptorIndex := 25, attributes := #[] }, { accessFlags := 25, nameIndex := 143, descriptorIndex := 25, attributes := #[] }, { accessFlags := 25, nameIndex := 53, descriptorIndex := 25, attributes := #[] }, { accessFlags := 25, nameIndex := 24, descriptorIndex := 25, attributes := #[] }, { accessFlags := 25, nameIndex := 162, descriptorIndex := 25, attributes := #[] }, { accessFlags := 25, nameIndex := 187, descriptorIndex := 25, attributes := #[] }, { accessFlags := 26, nameIndex := 48, descriptorIndex := 25, attributes := #[] }, { accessFlags := 25, nameIndex := 277, descriptorIndex := 25, attributes := #[] }, { accessFlags := 25, nameIndex := 280, descriptorIndex := 25, attributes := #[] }, { accessFlags := 25, nameIndex := 282, descriptorIndex := 25, attributes := #[] }, { accessFlags := 25, nameIndex := 284, descriptorIndex := 25, attributes := #[] }, { accessFlags := 25, nameIndex := 286, descriptorIndex := 25, attributes := #[] }, { accessFlags := 25, nameIndex := 288, descriptorIndex := 25, attributes := #[] }, { accessFlags := 25, nameIndex := 290, descriptorIndex := 25, attributes := #[] }, { accessFlags := 25, nameIndex := 292, descriptorIndex := 25, attributes := #[] }, { accessFlags := 26, nameIndex := 108, descriptorIndex := 109, attributes := #[] }, { accessFlags := 25, nameIndex := 294, descriptorIndex := 25, attributes := #[] }])
  fields := #[{ name := "U", type := (.object "jdk/internal/misc/Unsafe"), accessFlags := 24, slot := 0, constantValue := 0 }, { name := "BIG_ENDIAN", type := .boolean, accessFlags := 26, slot := 1, constantValue := 0 }, { name := "LOG2_ARRAY_BOOLEAN_INDEX_SCALE", type := .int, accessFlags := 25, slot := 2, constantValue := 0 }, { name := "LOG2_ARRAY_BYTE_INDEX_SCALE", type := .int, accessFlags := 25, slot := 3, constantValue := 0 }, { name := "LOG2_ARRAY_CHAR_INDEX_SCALE", type := .int, accessFlags := 25, slot := 4, constantValue := 0 }, { name := "LOG2_ARRAY_SHORT_INDEX_SCALE", type := .int, accessFlags := 25, slot := 5, constantValue := 0 }, { name := "LOG2_ARRAY_INT_INDEX_SCALE", type := .int, accessFlags := 25, slot := 6, constantValue := 0 }, { name := "LOG2_ARRAY_LONG_INDEX_SCALE", type := .int, accessFlags := 25, slot := 7, constantValue := 0 }, { name := "LOG2_ARRAY_FLOAT_INDEX_SCALE", type := .int, accessFlags := 25, slot := 8, constantValue := 0 }, { name := "LOG2_ARRAY_DOUBLE_INDEX_SCALE", type := .int, accessFlags := 25, slot := 9, constantValue := 0 }, { name := "LOG2_BYTE_BIT_SIZE", type := .int, accessFlags := 26, slot := 10, constantValue := 0 }, { name := "T_BOOLEAN", type := .int, accessFlags := 25, slot := 11, constantValue := 0 }, { name := "T_CHAR", type := .int, accessFlags := 25, slot := 12, constantValue := 0 }, { name := "T_FLOAT", type := .int, accessFlags := 25, slot := 13, constantValue := 0 }, { name := "T_DOUBLE", type := .int, accessFlags := 25, slot := 14, constantValue := 0 }, { name := "T_BYTE", type := .int, accessFlags := 25, slot := 15, constantValue := 0 }, { name := "T_SHORT", type := .int, accessFlags := 25, slot := 16, constantValue := 0 }, { name := "T_INT", type := .int, accessFlags := 25, slot := 17, constantValue := 0 }, { name := "T_LONG", type := .int, accessFlags := 25, slot := 18, constantValue := 0 }, { name := "JLA", type := (.object "jdk/internal/access/JavaLangAccess"), accessFlags := 26, slot := 19, constantValue := 0 }, { name := "SOFT_MAX_ARRAY_LENGTH", type := .int, accessFlags := 25, slot := 20, constantValue := 0 }]
  methods := #[k22m0]
  instanceTypes := #[]
  staticTypes := #[(.object "jdk/internal/misc/Unsafe"), .boolean, .int, .int, .int, .int, .int, .int, .int, .int, .int, .int, .int, .int, .int, .int, .int, .int, .int, (.object "jdk/internal/access/JavaLangAccess"), .int]
  resolved := Array.replicate 378 none
  statics := none }

/-- the primitive byte -/
def k23 : Class := { plain "byte" none with kind := .primitive 'B', accessFlags := 0x411 }
/-- [B -/
def k24 : Class := { plain "[B" (some 0) with kind := .array 23 .byte, interfaces := #[17, 3], accessFlags := 1041 }

/-- the primitive double -/
def k25 : Class := { plain "double" none with kind := .primitive 'D', accessFlags := 0x411 }
/-- [D -/
def k26 : Class := { plain "[D" (some 0) with kind := .array 25 .double, interfaces := #[17, 3], accessFlags := 1041 }

/-- the primitive int -/
def k27 : Class := { plain "int" none with kind := .primitive 'I', accessFlags := 0x411 }
/-- [I -/
def k28 : Class := { plain "[I" (some 0) with kind := .array 27 .int, interfaces := #[17, 3], accessFlags := 1041 }

def heap : Heap := #[{ cls := 8, slots := #[.long 0, .int 1, .null, .int 0, .null, .int 0, .int 0], vm := .statics 8 },
  { cls := 21, slots := #[.null, .null, .null], vm := .statics 21 }]
def classes : Array Class := #[k0, k1, k2, k3, k4, k5, k6, k7, k8, k9, k10, k11, k12, k13, k14, k15, k16, k17, k18, k19, k20, k21, k22, k23, k24, k25, k26, k27, k28]
def interned : List (Array UInt16 × Addr) := []
def slotsUsed : Nat := 10
def theMethod : MethodId := ⟨1, 1⟩
def args0 : Array Value := #[.int 5, .int 3, .int 2, .int 2]
def aboutOver (below : List Frame) : State where
  vm := { classes := classes, interned := interned.toArray }
  heap := heap
  slotsUsed := slotsUsed
  threads := #[{ frames := .invoking theMethod args0 :: below }]
def below0 : List Frame := [.native { method := ⟨0, 0⟩, args := #[] }]
def about1 : State := aboutOver below0
def p0 : Program := .bare "" "" ""
def e0 : Env := launch0.env 0 0 0
theorem w_frames : about1.frames = Frame.invoking theMethod args0 :: below0 := rfl
set_option maxRecDepth 65536 in
theorem w_args : argsFit about1.vm theMethod args0 = true := by decide +kernel
set_option maxRecDepth 65536 in
theorem w_heap : heapFits about1 = true := by decide +kernel
set_option maxRecDepth 65536 in
theorem w_runnable : about1.curStatus? = some .runnable := by decide +kernel
set_option maxRecDepth 65536 in
theorem w_alone : about1.alone = true := by decide +kernel
set_option maxRecDepth 65536 in
theorem w_named : about1.methodNamed? x = some theMethod := by decide +kernel
set_option maxRecDepth 65536 in
theorem w_hears : about1.hears theMethod below0 = true := by decide +kernel
set_option maxRecDepth 65536 in
theorem w_ripe : about1.ripe theMethod args0 below0 = true := by decide +kernel
theorem w_running : about1.status = .running := rfl
set_option maxRecDepth 65536 in
theorem w_room : about1.hasRoom e0.platform room_1 = true :=
  launch0.hasRoom_least _ room_1 (by decide +kernel) (by decide +kernel) (by decide +kernel) (by decide +kernel) (by decide +kernel) (by decide +kernel)
theorem allAtoms_all (ts : List Jvm.Cond) (a : Array Jvm.Value) (st : Jvm.State) : (allAtoms ts).before a st = ts.all (fun c => c.before a st) := by
  induction ts with
  | nil => rfl
  | cons c t ih =>
    show (Jvm.Cond.and c (allAtoms t)).before a st = _
    rw [Jvm.Cond.before_and, ih, List.all_cons]
def words1 : List Jvm.Cond := Jvm.Cond.code x code maxLocals ret :: tables_1
/-- a 'code' word, met by the world's own term for the bytes: nothing is compared byte by byte -/
theorem code_word {y : MethodName} {bytes : ByteArray} {mx : Nat} {rt : Option FieldType} {a : Array Value} {s : State} {m : MethodId} {meth : Method} {c : Code} (h1 : s.methodNamed? y = some m) (h2 : s.vm.method? m = some meth) (h3 : meth.code = some c) (h4 : c.code = bytes)
    (h5 : (c.maxLocals == mx && c.exceptionTable.isEmpty && decide (c.maxStack ≤ mostOperands) && decide (meth.sig.returnType = rt) && !meth.locks && decide (parseMethodDescriptor y.desc = some meth.sig)) = true) : (Jvm.Cond.code y bytes mx rt).before a s = true := by
  simp only [Bool.and_eq_true, beq_iff_eq, Bool.not_eq_true', decide_eq_true_eq] at h5
  obtain ⟨⟨⟨⟨⟨g1, g2⟩, g3⟩, g4⟩, g5⟩, g6⟩ := h5
  simp [Cond.before, Cond.holds, Cond.value, h1, h2, h3, h4, g1, g2, g3, g4, g5, g6]
def isCode : Jvm.Cond → Bool
  | .code _ _ _ _ => true
  | _ => false
theorem all_split {L : List Jvm.Cond} {P : Jvm.Cond → Bool} (h1 : L.all (fun c => isCode c || P c) = true) (h2 : ∀ c ∈ L.filter isCode, P c = true) : L.all P = true := by
  refine List.all_eq_true.mpr fun c hc => ?_
  have h := List.all_eq_true.mp h1 c hc
  rcases Bool.eq_false_or_eq_true (isCode c) with hi | hi
  · exact h2 c (List.mem_filter.mpr ⟨hc, hi⟩)
  · simpa [hi] using h
set_option maxRecDepth 65536 in
theorem w_c0 : (Jvm.Cond.code x code maxLocals ret).before args0 about1 = true := code_word (m := ⟨1, 1⟩) (meth := k1m1) (c := k1c1) (by decide +kernel) rfl rfl rfl (by decide +kernel)
set_option maxRecDepth 65536 in
theorem w_c1 : (Jvm.Cond.code ({ cls := "com/example/ordr/ordr/model/BoxSizes", name := "<init>", desc := "([D[D)V" } : Jvm.MethodName) prog_74_method_1_code (4 : Nat) (Option.none : Option Jvm.ClassFile.FieldType)).before args0 about1 = true := code_word (m := ⟨2, 0⟩) (meth := k2m0) (c := k2c0) (by decide +kernel) rfl rfl rfl (by decide +kernel)
set_option maxRecDepth 65536 in
theorem w_c2 : (Jvm.Cond.code ({ cls := "java/lang/Object", name := "<init>", desc := "()V" } : Jvm.MethodName) object_method_1_code (1 : Nat) (Option.none : Option Jvm.ClassFile.FieldType)).before args0 about1 = true := code_word (m := ⟨0, 0⟩) (meth := k0m0) (c := k0c0) (by decide +kernel) rfl rfl rfl (by decide +kernel)
set_option maxRecDepth 65536 in
theorem w_c3 : (Jvm.Cond.code ({ cls := "java/util/Objects", name := "requireNonNull", desc := "(Ljava/lang/Object;Ljava/lang/String;)Ljava/lang/Object;" } : Jvm.MethodName) jdk_31_method_11_code (2 : Nat) (Option.some (Jvm.ClassFile.FieldType.object "java/lang/Object"))).before args0 about1 = true := code_word (m := ⟨9, 1⟩) (meth := k9m1) (c := k9c1) (by decide +kernel) rfl rfl rfl (by decide +kernel)
set_option maxRecDepth 65536 in
theorem w_c4 : (Jvm.Cond.code ({ cls := "com/example/ordr/ordr/model/Layout", name := "checked", desc := "([DLjava/lang/String;ID)[D" } : Jvm.MethodName) prog_86_method_17_code (6 : Nat) (Option.some (Jvm.ClassFile.FieldType.array Jvm.ClassFile.FieldType.double))).before args0 about1 = true := code_word (m := ⟨10, 0⟩) (meth := k10m0) (c := k10c0) (by decide +kernel) rfl rfl rfl (by decide +kernel)
set_option maxRecDepth 65536 in
theorem w_c5 : (Jvm.Cond.code ({ cls := "java/lang/StringBuilder", name := "<init>", desc := "()V" } : Jvm.MethodName) jdk_67_method_1_code (1 : Nat) (Option.none : Option Jvm.ClassFile.FieldType)).before args0 about1 = true := code_word (m := ⟨13, 0⟩) (meth := k13m0) (c := k13c0) (by decide +kernel) rfl rfl rfl (by decide +kernel)
set_option maxRecDepth 65536 in
theorem w_c6 : (Jvm.Cond.code ({ cls := "java/lang/AbstractStringBuilder", name := "<init>", desc := "(I)V" } : Jvm.MethodName) jdk_68_method_2_code (2 : Nat) (Option.none : Option Jvm.ClassFile.FieldType)).before args0 about1 = true := code_word (m := ⟨12, 1⟩) (meth := k12m1) (c := k12c1) (by decide +kernel) rfl rfl rfl (by decide +kernel)
set_option maxRecDepth 65536 in
theorem w_c7 : (Jvm.Cond.code ({ cls := "java/lang/StringBuilder", name := "append", desc := "(Ljava/lang/String;)Ljava/lang/StringBuilder;" } : Jvm.MethodName) jdk_67_method_7_code (2 : Nat) (Option.some (Jvm.ClassFile.FieldType.object "java/lang/StringBuilder"))).before args0 about1 = true := code_word (m := ⟨13, 1⟩) (meth := k13m1) (c := k13c1) (by decide +kernel) rfl rfl rfl (by decide +kernel)
set_option maxRecDepth 65536 in
theorem w_c8 : (Jvm.Cond.code ({ cls := "java/lang/AbstractStringBuilder", name := "append", desc := "(Ljava/lang/String;)Ljava/lang/AbstractStringBuilder;" } : Jvm.MethodName) jdk_68_method_22_code (3 : Nat) (Option.some (Jvm.ClassFile.FieldType.object "java/lang/AbstractStringBuilder"))).before args0 about1 = true := code_word (m := ⟨12, 4⟩) (meth := k12m4) (c := k12c4) (by decide +kernel) rfl rfl rfl (by decide +kernel)
set_option maxRecDepth 65536 in
theorem w_c9 : (Jvm.Cond.code ({ cls := "java/lang/String", name := "length", desc := "()I" } : Jvm.MethodName) jdk_42_method_54_code (1 : Nat) (Option.some Jvm.ClassFile.FieldType.int)).before args0 about1 = true := code_word (m := ⟨8, 2⟩) (meth := k8m2) (c := k8c2) (by decide +kernel) rfl rfl rfl (by decide +kernel)
set_option maxRecDepth 65536 in
theorem w_c10 : (Jvm.Cond.code ({ cls := "java/lang/String", name := "coder", desc := "()B" } : Jvm.MethodName) jdk_42_method_152_code (1 : Nat) (Option.some Jvm.ClassFile.FieldType.byte)).before args0 about1 = true := code_word (m := ⟨8, 5⟩) (meth := k8m5) (c := k8c5) (by decide +kernel) rfl rfl rfl (by decide +kernel)
set_option maxRecDepth 65536 in
theorem w_c11 : (Jvm.Cond.code ({ cls := "java/lang/AbstractStringBuilder", name := "ensureCapacityInternal", desc := "(I)V" } : Jvm.MethodName) jdk_68_method_9_code (3 : Nat) (Option.none : Option Jvm.ClassFile.FieldType)).before args0 about1 = true := code_word (m := ⟨12, 3⟩) (meth := k12m3) (c := k12c3) (by decide +kernel) rfl rfl rfl (by decide +kernel)
set_option maxRecDepth 65536 in
theorem w_c12 : (Jvm.Cond.code ({ cls := "java/lang/AbstractStringBuilder", name := "putStringAt", desc := "(ILjava/lang/String;)V" } : Jvm.MethodName) jdk_68_method_73_code (3 : Nat) (Option.none : Option Jvm.ClassFile.FieldType)).before args0 about1 = true := code_word (m := ⟨12, 8⟩) (meth := k12m8) (c := k12c8) (by decide +kernel) rfl rfl rfl (by decide +kernel)
set_option maxRecDepth 65536 in
theorem w_c13 : (Jvm.Cond.code ({ cls := "java/lang/AbstractStringBuilder", name := "inflateIfNeededFor", desc := "(Ljava/lang/String;)V" } : Jvm.MethodName) jdk_68_method_71_code (2 : Nat) (Option.none : Option Jvm.ClassFile.FieldType)).before args0 about1 = true := code_word (m := ⟨12, 7⟩) (meth := k12m7) (c := k12c7) (by decide +kernel) rfl rfl rfl (by decide +kernel)
set_option maxRecDepth 65536 in
theorem w_c14 : (Jvm.Cond.code ({ cls := "java/lang/String", name := "getBytes", desc := "([BIB)V" } : Jvm.MethodName) jdk_42_method_147_code (4 : Nat) (Option.none : Option Jvm.ClassFile.FieldType)).before args0 about1 = true := code_word (m := ⟨8, 3⟩) (meth := k8m3) (c := k8c3) (by decide +kernel) rfl rfl rfl (by decide +kernel)
set_option maxRecDepth 65536 in
theorem w_c15 : (Jvm.Cond.code ({ cls := "java/lang/StringBuilder", name := "toString", desc := "()Ljava/lang/String;" } : Jvm.MethodName) jdk_67_method_42_code (1 : Nat) (Option.some (Jvm.ClassFile.FieldType.object "java/lang/String"))).before args0 about1 = true := code_word (m := ⟨13, 2⟩) (meth := k13m2) (c := k13c2) (by decide +kernel) rfl rfl rfl (by decide +kernel)
set_option maxRecDepth 65536 in
theorem w_c16 : (Jvm.Cond.code ({ cls := "java/lang/String", name := "<init>", desc := "(Ljava/lang/StringBuilder;)V" } : Jvm.MethodName) jdk_42_method_53_code (2 : Nat) (Option.none : Option Jvm.ClassFile.FieldType)).before args0 about1 = true := code_word (m := ⟨8, 1⟩) (meth := k8m1) (c := k8c1) (by decide +kernel) rfl rfl rfl (by decide +kernel)
set_option maxRecDepth 65536 in
theorem w_c17 : (Jvm.Cond.code ({ cls := "java/lang/String", name := "<init>", desc := "(Ljava/lang/AbstractStringBuilder;Ljava/lang/Void;)V" } : Jvm.MethodName) jdk_42_method_150_code (5 : Nat) (Option.none : Option Jvm.ClassFile.FieldType)).before args0 about1 = true := code_word (m := ⟨8, 4⟩) (meth := k8m4) (c := k8c4) (by decide +kernel) rfl rfl rfl (by decide +kernel)
set_option maxRecDepth 65536 in
theorem w_c18 : (Jvm.Cond.code ({ cls := "java/lang/AbstractStringBuilder", name := "getValue", desc := "()[B" } : Jvm.MethodName) jdk_68_method_64_code (1 : Nat) (Option.some (Jvm.ClassFile.FieldType.array Jvm.ClassFile.FieldType.byte))).before args0 about1 = true := code_word (m := ⟨12, 5⟩) (meth := k12m5) (c := k12c5) (by decide +kernel) rfl rfl rfl (by decide +kernel)
set_option maxRecDepth 65536 in
theorem w_c19 : (Jvm.Cond.code ({ cls := "java/lang/StringBuilder", name := "length", desc := "()I" } : Jvm.MethodName) jdk_67_method_93_code (1 : Nat) (Option.some Jvm.ClassFile.FieldType.int)).before args0 about1 = true := code_word (m := ⟨13, 3⟩) (meth := k13m3) (c := k13c3) (by decide +kernel) rfl rfl rfl (by decide +kernel)
set_option maxRecDepth 65536 in
theorem w_c20 : (Jvm.Cond.code ({ cls := "java/lang/AbstractStringBuilder", name := "length", desc := "()I" } : Jvm.MethodName) jdk_68_method_6_code (1 : Nat) (Option.some Jvm.ClassFile.FieldType.int)).before args0 about1 = true := code_word (m := ⟨12, 2⟩) (meth := k12m2) (c := k12c2) (by decide +kernel) rfl rfl rfl (by decide +kernel)
set_option maxRecDepth 65536 in
theorem w_c21 : (Jvm.Cond.code ({ cls := "java/lang/AbstractStringBuilder", name := "isLatin1", desc := "()Z" } : Jvm.MethodName) jdk_68_method_68_code (1 : Nat) (Option.some Jvm.ClassFile.FieldType.boolean)).before args0 about1 = true := code_word (m := ⟨12, 6⟩) (meth := k12m6) (c := k12c6) (by decide +kernel) rfl rfl rfl (by decide +kernel)
set_option maxRecDepth 65536 in
theorem w_c22 : (Jvm.Cond.code ({ cls := "java/util/Arrays", name := "copyOfRange", desc := "([BII)[B" } : Jvm.MethodName) jdk_65_method_132_code (3 : Nat) (Option.some (Jvm.ClassFile.FieldType.array Jvm.ClassFile.FieldType.byte))).before args0 about1 = true := code_word (m := ⟨15, 2⟩) (meth := k15m2) (c := k15c2) (by decide +kernel) rfl rfl rfl (by decide +kernel)
set_option maxRecDepth 65536 in
theorem w_c23 : (Jvm.Cond.code ({ cls := "java/util/Arrays", name := "copyOfRangeByte", desc := "([BII)[B" } : Jvm.MethodName) jdk_65_method_133_code (5 : Nat) (Option.some (Jvm.ClassFile.FieldType.array Jvm.ClassFile.FieldType.byte))).before args0 about1 = true := code_word (m := ⟨15, 3⟩) (meth := k15m3) (c := k15c3) (by decide +kernel) rfl rfl rfl (by decide +kernel)
set_option maxRecDepth 65536 in
theorem w_c24 : (Jvm.Cond.code ({ cls := "java/util/Arrays", name := "checkLength", desc := "(II)V" } : Jvm.MethodName) jdk_65_method_131_code (2 : Nat) (Option.none : Option Jvm.ClassFile.FieldType)).before args0 about1 = true := code_word (m := ⟨15, 1⟩) (meth := k15m1) (c := k15c1) (by decide +kernel) rfl rfl rfl (by decide +kernel)
set_option maxRecDepth 65536 in
theorem w_c25 : (Jvm.Cond.code ({ cls := "java/lang/Math", name := "min", desc := "(II)I" } : Jvm.MethodName) jdk_29_method_69_code (2 : Nat) (Option.some Jvm.ClassFile.FieldType.int)).before args0 about1 = true := code_word (m := ⟨16, 2⟩) (meth := k16m2) (c := k16c2) (by decide +kernel) rfl rfl rfl (by decide +kernel)
set_option maxRecDepth 65536 in
theorem w_c26 : (Jvm.Cond.code ({ cls := "com/example/ordr/ordr/model/Layout", name := "firstBelow", desc := "([DD)I" } : Jvm.MethodName) prog_86_method_18_code (4 : Nat) (Option.some Jvm.ClassFile.FieldType.int)).before args0 about1 = true := code_word (m := ⟨10, 1⟩) (meth := k10m1) (c := k10c1) (by decide +kernel) rfl rfl rfl (by decide +kernel)
set_option maxRecDepth 65536 in
theorem w_c27 : (Jvm.Cond.code ({ cls := "com/example/ordr/ordr/model/BoxSizes", name := "withLabels", desc := "([D[D[D[D)Lcom/example/ordr/ordr/model/BoxSizes;" } : Jvm.MethodName) prog_74_method_3_code (8 : Nat) (Option.some (Jvm.ClassFile.FieldType.object "com/example/ordr/ordr/model/BoxSizes"))).before args0 about1 = true := code_word (m := ⟨2, 2⟩) (meth := k2m2) (c := k2c2) (by decide +kernel) rfl rfl rfl (by decide +kernel)
set_option maxRecDepth 65536 in
theorem w_c28 : (Jvm.Cond.code ({ cls := "java/lang/Double", name := "isFinite", desc := "(D)Z" } : Jvm.MethodName) jdk_117_method_8_code (2 : Nat) (Option.some Jvm.ClassFile.FieldType.boolean)).before args0 about1 = true := code_word (m := ⟨19, 0⟩) (meth := k19m0) (c := k19c0) (by decide +kernel) rfl rfl rfl (by decide +kernel)
set_option maxRecDepth 65536 in
theorem w_c29 : (Jvm.Cond.code ({ cls := "java/lang/Math", name := "abs", desc := "(D)D" } : Jvm.MethodName) jdk_29_method_64_code (2 : Nat) (Option.some Jvm.ClassFile.FieldType.double)).before args0 about1 = true := code_word (m := ⟨16, 1⟩) (meth := k16m1) (c := k16c1) (by decide +kernel) rfl rfl rfl (by decide +kernel)
set_option maxRecDepth 65536 in
theorem w_c30 : (Jvm.Cond.code ({ cls := "com/example/ordr/ordr/model/BoxSizes", name := "<init>", desc := "(Lcom/example/ordr/ordr/model/BoxSizes;[D[D[D[D)V" } : Jvm.MethodName) prog_74_method_2_code (6 : Nat) (Option.none : Option Jvm.ClassFile.FieldType)).before args0 about1 = true := code_word (m := ⟨2, 1⟩) (meth := k2m1) (c := k2c1) (by decide +kernel) rfl rfl rfl (by decide +kernel)
set_option maxRecDepth 65536 in
theorem w_c31 : (Jvm.Cond.code ({ cls := "com/example/ordr/ordr/model/BoxSizes", name := "labelCount", desc := "()I" } : Jvm.MethodName) prog_74_method_5_code (1 : Nat) (Option.some Jvm.ClassFile.FieldType.int)).before args0 about1 = true := code_word (m := ⟨2, 3⟩) (meth := k2m3) (c := k2c3) (by decide +kernel) rfl rfl rfl (by decide +kernel)
def codes1 : List Jvm.Cond := [Jvm.Cond.code x code maxLocals ret, Jvm.Cond.code ({ cls := "com/example/ordr/ordr/model/BoxSizes", name := "<init>", desc := "([D[D)V" } : Jvm.MethodName) prog_74_method_1_code (4 : Nat) (Option.none : Option Jvm.ClassFile.FieldType), Jvm.Cond.code ({ cls := "java/lang/Object", name := "<init>", desc := "()V" } : Jvm.MethodName) object_method_1_code (1 : Nat) (Option.none : Option Jvm.ClassFile.FieldType), Jvm.Cond.code ({ cls := "java/util/Objects", name := "requireNonNull", desc := "(Ljava/lang/Object;Ljava/lang/String;)Ljava/lang/Object;" } : Jvm.MethodName) jdk_31_method_11_code (2 : Nat) (Option.some (Jvm.ClassFile.FieldType.object "java/lang/Object")), Jvm.Cond.code ({ cls := "com/example/ordr/ordr/model/Layout", name := "checked", desc := "([DLjava/lang/String;ID)[D" } : Jvm.MethodName) prog_86_method_17_code (6 : Nat) (Option.some (Jvm.ClassFile.FieldType.array Jvm.ClassFile.FieldType.double)), Jvm.Cond.code ({ cls := "java/lang/StringBuilder", name := "<init>", desc := "()V" } : Jvm.MethodName) jdk_67_method_1_code (1 : Nat) (Option.none : Option Jvm.ClassFile.FieldType), Jvm.Cond.code ({ cls := "java/lang/AbstractStringBuilder", name := "<init>", desc := "(I)V" } : Jvm.MethodName) jdk_68_method_2_code (2 : Nat) (Option.none : Option Jvm.ClassFile.FieldType), Jvm.Cond.code ({ cls := "java/lang/StringBuilder", name := "append", desc := "(Ljava/lang/String;)Ljava/lang/StringBuilder;" } : Jvm.MethodName) jdk_67_method_7_code (2 : Nat) (Option.some (Jvm.ClassFile.FieldType.object "java/lang/StringBuilder")), Jvm.Cond.code ({ cls := "java/lang/AbstractStringBuilder", name := "append", desc := "(Ljava/lang/String;)Ljava/lang/AbstractStringBuilder;" } : Jvm.MethodName) jdk_68_method_22_code (3 : Nat) (Option.some (Jvm.ClassFile.FieldType.object "java/lang/AbstractStringBuilder")), Jvm.Cond.code ({ cls := "java/lang/String", name := "length", desc := "()I" } : Jvm.MethodName) jdk_42_method_54_code (1 : Nat) (Option.some Jvm.ClassFile.FieldType.int), Jvm.Cond.code ({ cls := "java/lang/String", name := "coder", desc := "()B" } : Jvm.MethodName) jdk_42_method_152_code (1 : Nat) (Option.some Jvm.ClassFile.FieldType.byte), Jvm.Cond.code ({ cls := "java/lang/AbstractStringBuilder", name := "ensureCapacityInternal", desc := "(I)V" } : Jvm.MethodName) jdk_68_method_9_code (3 : Nat) (Option.none : Option Jvm.ClassFile.FieldType), Jvm.Cond.code ({ cls := "java/lang/AbstractStringBuilder", name := "putStringAt", desc := "(ILjava/lang/String;)V" } : Jvm.MethodName) jdk_68_method_73_code (3 : Nat) (Option.none : Option Jvm.ClassFile.FieldType), Jvm.Cond.code ({ cls := "java/lang/AbstractStringBuilder", name := "inflateIfNeededFor", desc := "(Ljava/lang/String;)V" } : Jvm.MethodName) jdk_68_method_71_code (2 : Nat) (Option.none : Option Jvm.ClassFile.FieldType), Jvm.Cond.code ({ cls := "java/lang/String", name := "getBytes", desc := "([BIB)V" } : Jvm.MethodName) jdk_42_method_147_code (4 : Nat) (Option.none : Option Jvm.ClassFile.FieldType), Jvm.Cond.code ({ cls := "java/lang/StringBuilder", name := "toString", desc := "()Ljava/lang/String;" } : Jvm.MethodName) jdk_67_method_42_code (1 : Nat) (Option.some (Jvm.ClassFile.FieldType.object "java/lang/String")), Jvm.Cond.code ({ cls := "java/lang/String", name := "<init>", desc := "(Ljava/lang/StringBuilder;)V" } : Jvm.MethodName) jdk_42_method_53_code (2 : Nat) (Option.none : Option Jvm.ClassFile.FieldType), Jvm.Cond.code ({ cls := "java/lang/String", name := "<init>", desc := "(Ljava/lang/AbstractStringBuilder;Ljava/lang/Void;)V" } : Jvm.MethodName) jdk_42_method_150_code (5 : Nat) (Option.none : Option Jvm.ClassFile.FieldType), Jvm.Cond.code ({ cls := "java/lang/AbstractStringBuilder", name := "getValue", desc := "()[B" } : Jvm.MethodName) jdk_68_method_64_code (1 : Nat) (Option.some (Jvm.ClassFile.FieldType.array Jvm.ClassFile.FieldType.byte)), Jvm.Cond.code ({ cls := "java/lang/StringBuilder", name := "length", desc := "()I" } : Jvm.MethodName) jdk_67_method_93_code (1 : Nat) (Option.some Jvm.ClassFile.FieldType.int), Jvm.Cond.code ({ cls := "java/lang/AbstractStringBuilder", name := "length", desc := "()I" } : Jvm.MethodName) jdk_68_method_6_code (1 : Nat) (Option.some Jvm.ClassFile.FieldType.int), Jvm.Cond.code ({ cls := "java/lang/AbstractStringBuilder", name := "isLatin1", desc := "()Z" } : Jvm.MethodName) jdk_68_method_68_code (1 : Nat) (Option.some Jvm.ClassFile.FieldType.boolean), Jvm.Cond.code ({ cls := "java/util/Arrays", name := "copyOfRange", desc := "([BII)[B" } : Jvm.MethodName) jdk_65_method_132_code (3 : Nat) (Option.some (Jvm.ClassFile.FieldType.array Jvm.ClassFile.FieldType.byte)), Jvm.Cond.code ({ cls := "java/util/Arrays", name := "copyOfRangeByte", desc := "([BII)[B" } : Jvm.MethodName) jdk_65_method_133_code (5 : Nat) (Option.some (Jvm.ClassFile.FieldType.array Jvm.ClassFile.FieldType.byte)), Jvm.Cond.code ({ cls := "java/util/Arrays", name := "checkLength", desc := "(II)V" } : Jvm.MethodName) jdk_65_method_131_code (2 : Nat) (Option.none : Option Jvm.ClassFile.FieldType), Jvm.Cond.code ({ cls := "java/lang/Math", name := "min", desc := "(II)I" } : Jvm.MethodName) jdk_29_method_69_code (2 : Nat) (Option.some Jvm.ClassFile.FieldType.int), Jvm.Cond.code ({ cls := "com/example/ordr/ordr/model/Layout", name := "firstBelow", desc := "([DD)I" } : Jvm.MethodName) prog_86_method_18_code (4 : Nat) (Option.some Jvm.ClassFile.FieldType.int), Jvm.Cond.code ({ cls := "com/example/ordr/ordr/model/BoxSizes", name := "withLabels", desc := "([D[D[D[D)Lcom/example/ordr/ordr/model/BoxSizes;" } : Jvm.MethodName) prog_74_method_3_code (8 : Nat) (Option.some (Jvm.ClassFile.FieldType.object "com/example/ordr/ordr/model/BoxSizes")), Jvm.Cond.code ({ cls := "java/lang/Double", name := "isFinite", desc := "(D)Z" } : Jvm.MethodName) jdk_117_method_8_code (2 : Nat) (Option.some Jvm.ClassFile.FieldType.boolean), Jvm.Cond.code ({ cls := "java/lang/Math", name := "abs", desc := "(D)D" } : Jvm.MethodName) jdk_29_method_64_code (2 : Nat) (Option.some Jvm.ClassFile.FieldType.double), Jvm.Cond.code ({ cls := "com/example/ordr/ordr/model/BoxSizes", name := "<init>", desc := "(Lcom/example/ordr/ordr/model/BoxSizes;[D[D[D[D)V" } : Jvm.MethodName) prog_74_method_2_code (6 : Nat) (Option.none : Option Jvm.ClassFile.FieldType), Jvm.Cond.code ({ cls := "com/example/ordr/ordr/model/BoxSizes", name := "labelCount", desc := "()I" } : Jvm.MethodName) prog_74_method_5_code (1 : Nat) (Option.some Jvm.ClassFile.FieldType.int)]
set_option maxRecDepth 65536 in
theorem codes_eq : words1.filter isCode = codes1 := rfl
theorem w_codes : ∀ c ∈ words1.filter isCode, c.before args0 about1 = true := by
  rw [codes_eq]
  intro c hc
  simp only [codes1, List.mem_cons, List.not_mem_nil, or_false] at hc
  rcases hc with rfl | rfl | rfl | rfl | rfl | rfl | rfl | rfl | rfl | rfl | rfl | rfl | rfl | rfl | rfl | rfl | rfl | rfl | rfl | rfl | rfl | rfl | rfl | rfl | rfl | rfl | rfl | rfl | rfl | rfl | rfl | rfl
  · exact w_c0
  · exact w_c1
  · exact w_c2
  · exact w_c3
  · exact w_c4
  · exact w_c5
  · exact w_c6
  · exact w_c7
  · exact w_c8
  · exact w_c9
  · exact w_c10
  · exact w_c11
  · exact w_c12
  · exact w_c13
  · exact w_c14
  · exact w_c15
  · exact w_c16
  · exact w_c17
  · exact w_c18
  · exact w_c19
  · exact w_c20
  · exact w_c21
  · exact w_c22
  · exact w_c23
  · exact w_c24
  · exact w_c25
  · exact w_c26
  · exact w_c27
  · exact w_c28
  · exact w_c29
  · exact w_c30
  · exact w_c31
set_option maxRecDepth 65536 in
theorem w_t1 : (words1.take 24).all (fun c => isCode c || c.before args0 about1) = true := by decide +kernel
set_option maxRecDepth 65536 in
theorem w_t2 : ((words1.drop 24).take 24).all (fun c => isCode c || c.before args0 about1) = true := by decide +kernel
set_option maxRecDepth 65536 in
theorem w_t3 : (((words1.drop 24).drop 24).take 24).all (fun c => isCode c || c.before args0 about1) = true := by decide +kernel
set_option maxRecDepth 65536 in
theorem w_t4 : ((((words1.drop 24).drop 24).drop 24).take 24).all (fun c => isCode c || c.before args0 about1) = true := by decide +kernel
set_option maxRecDepth 65536 in
theorem w_t5 : (((((words1.drop 24).drop 24).drop 24).drop 24).take 24).all (fun c => isCode c || c.before args0 about1) = true := by decide +kernel
set_option maxRecDepth 65536 in
theorem w_t6 : ((((((words1.drop 24).drop 24).drop 24).drop 24).drop 24).take 24).all (fun c => isCode c || c.before args0 about1) = true := by decide +kernel
set_option maxRecDepth 65536 in
theorem w_t7 : (((((((words1.drop 24).drop 24).drop 24).drop 24).drop 24).drop 24).take 24).all (fun c => isCode c || c.before args0 about1) = true := by decide +kernel
set_option maxRecDepth 65536 in
theorem w_t8 : ((((((((words1.drop 24).drop 24).drop 24).drop 24).drop 24).drop 24).drop 24).take 24).all (fun c => isCode c || c.before args0 about1) = true := by decide +kernel
set_option maxRecDepth 65536 in
theorem w_t9 : ((((((((words1.drop 24).drop 24).drop 24).drop 24).drop 24).drop 24).drop 24).drop 24).all (fun c => isCode c || c.before args0 about1) = true := by decide +kernel
theorem w_tables : (allAtoms (Jvm.Cond.code x code maxLocals ret :: tables_1)).before args0 about1 = true := by
  rw [allAtoms_all]
  show words1.all (fun c => c.before args0 about1) = true
  refine all_split ?_ w_codes
  rw [← List.take_append_drop 24 words1, List.all_append, w_t1, ← List.take_append_drop 24 (words1.drop 24), List.all_append, w_t2, ← List.take_append_drop 24 ((words1.drop 24).drop 24), List.all_append, w_t3, ← List.take_append_drop 24 (((words1.drop 24).drop 24).drop 24), List.all_append, w_t4, ← List.take_append_drop 24 ((((words1.drop 24).drop 24).drop 24).drop 24), List.all_append, w_t5, ← List.take_append_drop 24 (((((words1.drop 24).drop 24).drop 24).drop 24).drop 24), List.all_append, w_t6, ← List.take_append_drop 24 ((((((words1.drop 24).drop 24).drop 24).drop 24).drop 24).drop 24), List.all_append, w_t7, ← List.take_append_drop 24 (((((((words1.drop 24).drop 24).drop 24).drop 24).drop 24).drop 24).drop 24), List.all_append, w_t8, w_t9]
  rfl
set_option maxRecDepth 65536 in
theorem w_rest : rest_1_c.before args0 about1 = true := by decide +kernel
set_option maxRecDepth 65536 in
theorem w_case : (Jvm.Cond.and given_1 narrow_1).before args0 about1 = true := by decide +kernel
set_option maxRecDepth 65536 in
theorem w_consts : constsHeld consts_1 about1 := Jvm.Lit.constsHeldB_iff.mp (by decide +kernel)
theorem w_applies : (headSpec (Jvm.Cond.code x code maxLocals ret :: tables_1) room_1).applies x e0.platform about1 = true :=
  (Spec.applies_iff w_frames).mpr ⟨w_running, w_runnable, w_alone, w_named, w_hears, w_ripe, w_room, w_tables⟩
theorem atStart : AtStart classFile x code maxLocals ret World_1 tables_1 room_1 Calls_1 rest_1 Pre_1 launch0 p0 e0 about1 theMethod args0 below0 :=
  ⟨lists_1, trivial, launch0.admits_env _ _ _, launch0.least_env, fairChoices_fair.cas, fairChoices_fair.clock, w_frames, w_args, w_heap, w_applies, ⟨w_consts, trivial⟩, w_rest, w_case⟩
end start1
theorem witness_1 : WitnessClaimed_1 := ⟨start1.p0, start1.e0, start1.about1, start1.theMethod, start1.args0, start1.below0, start1.atStart⟩
end Jvm.Pilot.@@N@@
